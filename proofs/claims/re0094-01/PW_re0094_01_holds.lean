import PyProof.Rows.All
import Wide.All
import OpenK.AllK
import Wide.FinOn
import Lean
import PySem.Challenge.RW_re0094_01
set_option Elab.async false
set_option linter.all false
noncomputable section
namespace Mine.Bbs

/-- one box under a carrier with room r and load x: the new load, the new box -/
def stp (r x : Nat) (c : Bool) : Nat × Bool :=
  if c then (if x < r then (x + 1, false) else (x, true)) else (if 0 < x then (x - 1, true) else (x, false))
def out (r : Nat) : Nat → List Bool → List Bool
  | _, [] => []
  | x, c :: t => (stp r x c).2 :: out r (stp r x c).1 t
def fin (r : Nat) : Nat → List Bool → Nat
  | x, [] => x
  | x, c :: t => fin r (stp r x c).1 t
def tk (r : Nat) : Nat → List Bool → Nat
  | _, [] => 0
  | x, c :: t => (if c = true ∧ x < r then 1 else 0) + tk r (stp r x c).1 t
def zs (n : Nat) : List Bool := List.replicate n false
def pass (r : Nat) (s : List Bool) : List Bool := out r 0 (s ++ zs r)
def taken (r : Nat) (s : List Bool) : Nat := tk r 0 (s ++ zs r)

theorem stp_le {r x : Nat} (c : Bool) (h : x ≤ r) : (stp r x c).1 ≤ r := by
  unfold stp; cases c <;> simp <;> split <;> simp <;> omega
theorem fin_le {r : Nat} : ∀ (l : List Bool) {x : Nat}, x ≤ r → fin r x l ≤ r
  | [], _, h => h
  | c :: t, _, h => fin_le t (stp_le c h)
theorem out_append (r : Nat) : ∀ (a b : List Bool) (x : Nat), out r x (a ++ b) = out r x a ++ out r (fin r x a) b
  | [], _, _ => rfl
  | c :: a, b, x => by simp [out, fin, out_append r a b]
theorem fin_append (r : Nat) : ∀ (a b : List Bool) (x : Nat), fin r x (a ++ b) = fin r (fin r x a) b
  | [], _, _ => rfl
  | c :: a, b, x => by simp [fin, fin_append r a b]
theorem tk_append (r : Nat) : ∀ (a b : List Bool) (x : Nat), tk r x (a ++ b) = tk r x a + tk r (fin r x a) b
  | [], _, _ => by simp [tk, fin]
  | c :: a, b, x => by simp [tk, fin, tk_append r a b, Nat.add_assoc]
theorem zs_succ (n : Nat) : zs (n + 1) = false :: zs n := rfl
theorem zs_add (m n : Nat) : zs (m + n) = zs m ++ zs n := by simp [zs]
theorem zs_rev (n : Nat) : (zs n).reverse = zs n := by simp [zs]
theorem stp_f (r x : Nat) : stp r x false = (x - 1, decide (0 < x)) := by
  unfold stp; simp; split <;> simp_all
theorem fin_zs (r : Nat) : ∀ (n x : Nat), fin r x (zs n) = x - n
  | 0, x => by simp [zs, fin]
  | n + 1, x => by rw [zs_succ]; simp only [fin, stp_f, fin_zs r n]; omega
theorem tk_zs (r : Nat) : ∀ (n x : Nat), tk r x (zs n) = 0
  | 0, x => by simp [zs, tk]
  | n + 1, x => by rw [zs_succ]; simp [tk, tk_zs r n]
theorem out_zs0 (r : Nat) : ∀ n, out r 0 (zs n) = zs n
  | 0 => rfl
  | n + 1 => by rw [zs_succ]; simp [out, stp_f, out_zs0 r n]
theorem tk_pad (r x : Nat) (a : List Bool) (n : Nat) : tk r x (a ++ zs n) = tk r x a := by rw [tk_append, tk_zs]; rfl
theorem fin_pad {r x : Nat} (a : List Bool) {n : Nat} (hx : x ≤ r) (hn : r ≤ n) : fin r x (a ++ zs n) = 0 := by
  rw [fin_append, fin_zs]; have := fin_le a hx; omega
theorem taken_eq (r : Nat) (s : List Bool) (n : Nat) : taken r s = tk r 0 (s ++ zs n) := by rw [taken, tk_pad, tk_pad]
theorem pass_pad (r n : Nat) (s : List Bool) : out r 0 (s ++ zs (r + n)) = pass r s ++ zs n := by
  rw [zs_add, ← List.append_assoc, out_append, fin_pad s (Nat.zero_le _) (Nat.le_refl _), out_zs0]; rfl
theorem out_length (r : Nat) : ∀ (l : List Bool) (x : Nat), (out r x l).length = l.length
  | [], _ => rfl
  | c :: t, x => by simp [out, out_length r t]
theorem pass_length (r : Nat) (s : List Bool) : (pass r s).length = s.length + r := by simp [pass, out_length, zs]

/-! turned about -/
theorem stp_inv {r x : Nat} (c : Bool) (h : x ≤ r) : stp r (stp r x c).1 (stp r x c).2 = (x, c) := by
  unfold stp
  cases c
  · by_cases q : 0 < x
    · have : x - 1 < r := by omega
      simp [q, this]; omega
    · simp [q]
  · by_cases q : x < r
    · simp [q]
    · simp [q]
theorem stp_takes {r x : Nat} (c : Bool) (h : x ≤ r) :
    (if (stp r x c).2 = true ∧ (stp r x c).1 < r then 1 else 0) + (stp r x c).1 = (if c = true ∧ x < r then 1 else 0) + x := by
  unfold stp
  cases c
  · by_cases q : 0 < x
    · have : x - 1 < r := by omega
      simp [q, this]; omega
    · simp [q]
  · by_cases q : x < r
    · simp [q]; omega
    · simp [q]
theorem back {r : Nat} : ∀ (l : List Bool) {x : Nat}, x ≤ r →
    out r (fin r x l) (out r x l).reverse = l.reverse ∧ fin r (fin r x l) (out r x l).reverse = x ∧ tk r (fin r x l) (out r x l).reverse + fin r x l = tk r x l + x
  | [], _, _ => by simp [out, fin, tk]
  | c :: t, x, h => by
    obtain ⟨i1, i2, i3⟩ := back t (stp_le c h)
    have e := stp_inv c h
    have k := stp_takes c h
    simp only [out, fin, tk, List.reverse_cons]
    refine ⟨?_, ?_, ?_⟩
    · rw [out_append, i1, i2]; simp [out, e]
    · rw [fin_append, i2]; simp [fin, e]
    · rw [tk_append, i2]; simp only [tk]; omega
theorem fin_pass (r : Nat) (s : List Bool) : fin r 0 (s ++ zs r) = 0 := fin_pad s (Nat.zero_le _) (Nat.le_refl _)
theorem pass_back (r : Nat) (s : List Bool) : pass r (pass r s).reverse = zs r ++ s.reverse ++ zs r := by
  obtain ⟨i1, i2, _⟩ := back (r := r) (s ++ zs r) (Nat.zero_le r)
  rw [fin_pass] at i1 i2
  show out r 0 ((out r 0 (s ++ zs r)).reverse ++ zs r) = _
  rw [out_append, i1, i2, out_zs0]; simp [zs_rev]
theorem taken_back (r : Nat) (s : List Bool) : taken r (pass r s).reverse = taken r s := by
  obtain ⟨_, _, i3⟩ := back (r := r) (s ++ zs r) (Nat.zero_le r)
  rw [fin_pass] at i3
  rw [taken_eq r _ 0]
  show tk r 0 ((out r 0 (s ++ zs r)).reverse ++ []) = tk r 0 (s ++ zs r)
  rw [List.append_nil]; omega
theorem pass_zs_front (r m : Nat) (s : List Bool) : pass r (zs m ++ s) = zs m ++ pass r s := by
  unfold pass
  rw [List.append_assoc, out_append, out_zs0, fin_zs]; simp
theorem taken_zs_front (r m : Nat) (s : List Bool) : taken r (zs m ++ s) = taken r s := by
  unfold taken
  rw [List.append_assoc, tk_append, tk_zs, fin_zs]; simp
theorem pass_zs_behind (r m : Nat) (s : List Bool) : pass r (s ++ zs m) = pass r s ++ zs m := by
  rw [← pass_pad]; unfold pass; rw [List.append_assoc, ← zs_add, Nat.add_comm]
theorem taken_zs_behind (r m : Nat) (s : List Bool) : taken r (s ++ zs m) = taken r s := by
  unfold taken; rw [List.append_assoc, ← zs_add, tk_pad, tk_pad]

/-! two carriers -/
def q0 (b x y : Nat) : Nat := min x (b - y)
def q1 (a x y : Nat) : Nat := min (a - x) y
def rx (a b x y : Nat) : Nat := x + q1 a x y - q0 b x y
def ry (a b x y : Nat) : Nat := y + q0 b x y - q1 a x y
theorem rx_le {a b x y : Nat} (hx : x ≤ a) : rx a b x y ≤ a := by unfold rx q0 q1; omega
theorem ry_le {a b x y : Nat} (hy : y ≤ b) : ry a b x y ≤ b := by unfold ry q0 q1; omega
theorem local_F {a b x y : Nat} (hx : x ≤ a) (hy : y ≤ b) :
    let p := stp a x false; let p' := stp b y p.2; let u := stp b (ry a b x y) false; let u' := stp a (rx a b x y) u.2
    u'.2 = p'.2 ∧ u'.1 = rx a b p.1 p'.1 ∧ u.1 = ry a b p.1 p'.1 ∧
      q0 b x y = (if u.2 = true ∧ rx a b x y < a then 1 else 0) + q0 b p.1 p'.1 := by
  dsimp only
  by_cases h1 : 0 < x
  · by_cases h2 : y < b
    · by_cases h4 : 0 < ry a b x y
      · by_cases h6 : rx a b x y < a
        · simp only [stp, h1, h2, h4, h6, if_true, if_false, Bool.false_eq_true]; unfold rx ry q0 q1 at *; simp; omega
        · simp only [stp, h1, h2, h4, h6, if_true, if_false, Bool.false_eq_true]; unfold rx ry q0 q1 at *; simp; omega
      · exfalso; unfold ry q0 q1 at *; omega
    · by_cases h4 : 0 < ry a b x y
      · by_cases h6 : rx a b x y < a
        · simp only [stp, h1, h2, h4, h6, if_true, if_false, Bool.false_eq_true]; unfold rx ry q0 q1 at *; simp; omega
        · simp only [stp, h1, h2, h4, h6, if_true, if_false, Bool.false_eq_true]; unfold rx ry q0 q1 at *; simp; omega
      · by_cases h5 : 0 < rx a b x y
        · simp only [stp, h1, h2, h4, h5, if_true, if_false, Bool.false_eq_true]; unfold rx ry q0 q1 at *; simp; omega
        · exfalso; unfold rx ry q0 q1 at *; omega
  · by_cases h3 : 0 < y
    · by_cases h4 : 0 < ry a b x y
      · by_cases h6 : rx a b x y < a
        · simp only [stp, h1, h3, h4, h6, if_true, if_false, Bool.false_eq_true]; unfold rx ry q0 q1 at *; simp; omega
        · simp only [stp, h1, h3, h4, h6, if_true, if_false, Bool.false_eq_true]; unfold rx ry q0 q1 at *; simp; omega
      · by_cases h5 : 0 < rx a b x y
        · simp only [stp, h1, h3, h4, h5, if_true, if_false, Bool.false_eq_true]; unfold rx ry q0 q1 at *; simp; omega
        · exfalso; unfold rx ry q0 q1 at *; omega
    · have e1 : rx a b x y = 0 := by unfold rx q0 q1; omega
      have e2 : ry a b x y = 0 := by unfold ry q0 q1; omega
      have e3 : x = 0 := by omega
      have e4 : y = 0 := by omega
      subst e3 e4
      simp [stp, e1, e2]
theorem local_T {a b x y : Nat} (hx : x ≤ a) (hy : y ≤ b) :
    let p := stp a x true; let p' := stp b y p.2; let u := stp b (ry a b x y) true; let u' := stp a (rx a b x y) u.2
    u'.2 = p'.2 ∧ u'.1 = rx a b p.1 p'.1 ∧ u.1 = ry a b p.1 p'.1 ∧
      (if x < a then 1 else 0) + q0 b x y = (if u.2 = true ∧ rx a b x y < a then 1 else 0) + q0 b p.1 p'.1 := by
  dsimp only
  by_cases h1 : x < a
  · by_cases h3 : 0 < y
    · by_cases h4 : ry a b x y < b
      · by_cases h5 : 0 < rx a b x y
        · simp only [stp, h1, h3, h4, h5, if_true, if_false, Bool.false_eq_true]; unfold rx ry q0 q1 at *; simp; omega
        · exfalso; unfold rx ry q0 q1 at *; omega
      · by_cases h6 : rx a b x y < a
        · simp only [stp, h1, h3, h4, h6, if_true, if_false, Bool.false_eq_true]; unfold rx ry q0 q1 at *; simp; omega
        · exfalso; unfold rx ry q0 q1 at *; omega
    · by_cases h4 : ry a b x y < b
      · by_cases h5 : 0 < rx a b x y
        · simp only [stp, h1, h3, h4, h5, if_true, if_false, Bool.false_eq_true]; unfold rx ry q0 q1 at *; simp; omega
        · simp only [stp, h1, h3, h4, h5, if_true, if_false, Bool.false_eq_true]; unfold rx ry q0 q1 at *; simp; omega
      · by_cases h6 : rx a b x y < a
        · simp only [stp, h1, h3, h4, h6, if_true, if_false, Bool.false_eq_true]; unfold rx ry q0 q1 at *; simp; omega
        · exfalso; unfold rx ry q0 q1 at *; omega
  · by_cases h2 : y < b
    · by_cases h4 : ry a b x y < b
      · by_cases h5 : 0 < rx a b x y
        · simp only [stp, h1, h2, h4, h5, if_true, if_false, Bool.false_eq_true]; unfold rx ry q0 q1 at *; simp; omega
        · simp only [stp, h1, h2, h4, h5, if_true, if_false, Bool.false_eq_true]; unfold rx ry q0 q1 at *; simp; omega
      · by_cases h6 : rx a b x y < a
        · simp only [stp, h1, h2, h4, h6, if_true, if_false, Bool.false_eq_true]; unfold rx ry q0 q1 at *; simp; omega
        · exfalso; unfold rx ry q0 q1 at *; omega
    · have e1 : rx a b x y = a := by unfold rx q0 q1; omega
      have e2 : ry a b x y = b := by unfold ry q0 q1; omega
      have e3 : x = a := by omega
      have e4 : y = b := by omega
      subst e3 e4
      simp [stp, e1, e2]
theorem local_R {a b x y : Nat} (hx : x ≤ a) (hy : y ≤ b) (c : Bool) :
    let p := stp a x c; let p' := stp b y p.2; let u := stp b (ry a b x y) c; let u' := stp a (rx a b x y) u.2
    u'.2 = p'.2 ∧ u'.1 = rx a b p.1 p'.1 ∧ u.1 = ry a b p.1 p'.1 ∧
      (if c = true ∧ x < a then 1 else 0) + q0 b x y = (if u.2 = true ∧ rx a b x y < a then 1 else 0) + q0 b p.1 p'.1 := by
  cases c
  · have := local_F hx hy; simpa using this
  · have := local_T hx hy; simpa using this
theorem two {a b : Nat} : ∀ (l : List Bool) {x y : Nat}, x ≤ a → y ≤ b →
    out a (rx a b x y) (out b (ry a b x y) l) = out b y (out a x l) ∧
    tk a x l + q0 b x y = tk a (rx a b x y) (out b (ry a b x y) l) + q0 b (fin a x l) (fin b y (out a x l))
  | [], x, y, _, _ => by simp [out, tk, fin]
  | c :: t, x, y, hx, hy => by
    obtain ⟨e1, e2, e3, e4⟩ := local_R hx hy c
    obtain ⟨i1, i2⟩ := two t (stp_le c hx) (stp_le (stp a x c).2 hy)
    simp only [out, tk, fin]
    rw [e1, e2, e3, i1]
    exact ⟨rfl, by omega⟩
theorem two0 (a b : Nat) (l : List Bool) (h : fin a 0 l = 0) : out a 0 (out b 0 l) = out b 0 (out a 0 l) ∧ tk a 0 l = tk a 0 (out b 0 l) := by
  have e1 : rx a b 0 0 = 0 := by unfold rx q0 q1; omega
  have e2 : ry a b 0 0 = 0 := by unfold ry q0 q1; omega
  obtain ⟨i1, i2⟩ := two (a := a) (b := b) l (Nat.zero_le a) (Nat.zero_le b)
  rw [e1, e2] at i1 i2
  rw [h] at i2
  refine ⟨i1, ?_⟩
  unfold q0 at i2
  omega
theorem pass_two (a b : Nat) (s : List Bool) : pass b (pass a s) = out b 0 (out a 0 (s ++ zs (a + b))) := by rw [pass_pad]; rfl
theorem pass_comm (a b : Nat) (s : List Bool) : pass a (pass b s) = pass b (pass a s) := by
  rw [pass_two, pass_two, Nat.add_comm b a]
  exact (two0 a b _ (fin_pad s (Nat.zero_le _) (Nat.le_add_right a b))).1
theorem taken_pass (a b : Nat) (s : List Bool) : taken a (pass b s) = taken a s := by
  rw [taken_eq a s (b + a), (two0 a b _ (fin_pad s (Nat.zero_le _) (Nat.le_add_left a b))).2, pass_pad, tk_pad, taken_eq a _ 0]
  show tk a 0 (pass b s ++ []) = _
  rw [List.append_nil]

/-! the numbers: a ball ahead of an empty box goes, with the box -/
def starts : Bool → List Bool → Nat
  | _, [] => 0
  | p, true :: t => (if p then 0 else 1) + starts true t
  | _, false :: t => starts false t
def elim : List Bool → List Bool
  | true :: false :: t => elim t
  | true :: true :: t => true :: elim (true :: t)
  | true :: [] => [true]
  | false :: t => false :: elim t
  | [] => []
def fr : List Bool → Option Nat
  | [] => some 0
  | false :: t => (fr t).map (· + 1)
  | true :: t => match fr t with
    | some (n + 1) => some n
    | _ => none
def balls : List Bool → Nat
  | [] => 0
  | true :: t => balls t + 1
  | false :: t => balls t
theorem fr_zs : ∀ n, fr (zs n) = some n
  | 0 => rfl
  | n + 1 => by rw [zs_succ]; simp [fr, fr_zs n]
theorem fr_pad : ∀ (s : List Bool) (n k : Nat), balls s + k ≤ n → ∃ m, fr (s ++ zs n) = some m ∧ k ≤ m
  | [], n, k, h => ⟨n, fr_zs n, by simp [balls] at h; omega⟩
  | false :: t, n, k, h => by
    obtain ⟨m, e, hm⟩ := fr_pad t n k h
    exact ⟨m + 1, by simp [fr, e], by omega⟩
  | true :: t, n, k, h => by
    obtain ⟨m, e, hm⟩ := fr_pad t n (k + 1) (by simp [balls] at h; omega)
    obtain ⟨m, rfl⟩ : ∃ j, m = j + 1 := ⟨m - 1, by omega⟩
    exact ⟨m, by simp [fr, e], by omega⟩
theorem fr_tail {c : Bool} {t : List Bool} (h : (fr (c :: t)).isSome = true) : (fr t).isSome = true := by
  cases c
  · simpa [fr] using h
  · unfold fr at h
    cases e : fr t with
    | none => simp [e] at h
    | some n => rfl
theorem fr_elim : ∀ (n : Nat) (t : List Bool), t.length ≤ n → (fr t).isSome = true → fr (elim t) = fr t
  | _, [], _, _ => rfl
  | 0, _ :: _, h, _ => by simp at h
  | n + 1, false :: t, h, k => by
    simp only [elim, fr, fr_elim n t (by simpa using h) (fr_tail k)]
  | n + 1, [true], _, k => by simp [fr] at k
  | n + 1, true :: false :: t, h, k => by
    have k' := fr_tail (fr_tail k)
    rw [elim, fr_elim n t (by simp at h; omega) k']
    cases e : fr t with
    | none => rw [e] at k'; cases k'
    | some m => simp [fr, e]
  | n + 1, true :: true :: t, h, k => by
    have i := fr_elim n (true :: t) (by simp at h ⊢; omega) (fr_tail k)
    rw [elim]
    show (match fr (elim (true :: t)) with | some (n + 1) => some n | _ => none) = (match fr (true :: t) with | some (n + 1) => some n | _ => none)
    rw [i]
theorem main_tk (r : Nat) : ∀ (n : Nat) (t : List Bool), t.length ≤ n → (fr t).isSome = true →
    (∀ x, x ≤ r → tk (r + 1) x t = tk r x (elim t) + starts false t) ∧
    (∀ u, t = true :: u → tk (r + 1) (r + 1) t + 1 = tk r r (elim t) + starts false t)
  | _, [], _, _ => ⟨fun _ _ => by simp [tk, elim, starts], fun u h => by cases h⟩
  | 0, _ :: _, h, _ => by simp at h
  | n + 1, false :: t, h, k => by
    obtain ⟨i, _⟩ := main_tk r n t (by simpa using h) (fr_tail k)
    refine ⟨fun x hx => ?_, fun u h => by cases h⟩
    simp only [tk, elim, starts, stp_f]
    rw [i (x - 1) (by omega)]
    simp
  | n + 1, [true], _, k => by simp [fr] at k
  | n + 1, true :: false :: t, h, k => by
    obtain ⟨i, _⟩ := main_tk r n t (by simp at h; omega) (fr_tail (fr_tail k))
    refine ⟨fun x hx => ?_, fun u _ => ?_⟩
    · have q : x < r + 1 := by omega
      simp [tk, elim, starts, stp, q, i x hx]; omega
    · simp [tk, elim, starts, stp, i r (Nat.le_refl r)]; omega
  | n + 1, true :: true :: t, h, k => by
    obtain ⟨i, j⟩ := main_tk r n (true :: t) (by simp at h ⊢; omega) (fr_tail k)
    have e : starts false (true :: true :: t) = starts false (true :: t) := by simp [starts]
    refine ⟨fun x hx => ?_, fun u _ => ?_⟩
    · have q : x < r + 1 := by omega
      rw [e, elim]
      have l : tk (r + 1) x (true :: true :: t) = 1 + tk (r + 1) (x + 1) (true :: t) := by rw [tk]; simp [stp, q]
      rw [l]
      by_cases hr : x < r
      · have l2 : tk r x (true :: elim (true :: t)) = 1 + tk r (x + 1) (elim (true :: t)) := by rw [tk]; simp [stp, hr]
        rw [l2, i (x + 1) (by omega)]; omega
      · obtain rfl : x = r := by omega
        have l2 : tk x x (true :: elim (true :: t)) = tk x x (elim (true :: t)) := by rw [tk]; simp [stp]
        have := j t rfl
        rw [l2]; omega
    · rw [e, elim]
      have l : tk (r + 1) (r + 1) (true :: true :: t) = tk (r + 1) (r + 1) (true :: t) := by rw [tk]; simp [stp]
      have l2 : tk r r (true :: elim (true :: t)) = tk r r (elim (true :: t)) := by rw [tk]; simp [stp]
      rw [l, l2]; exact j t rfl
theorem balls_elim : ∀ (n : Nat) (t : List Bool), t.length ≤ n → (fr t).isSome = true → balls (elim t) + starts false t = balls t
  | _, [], _, _ => rfl
  | 0, _ :: _, h, _ => by simp at h
  | n + 1, false :: t, h, k => by simp only [elim, balls, starts]; exact balls_elim n t (by simpa using h) (fr_tail k)
  | n + 1, [true], _, k => by simp [fr] at k
  | n + 1, true :: false :: t, h, k => by
    have := balls_elim n t (by simp at h; omega) (fr_tail (fr_tail k))
    simp [elim, balls, starts]; omega
  | n + 1, true :: true :: t, h, k => by
    have := balls_elim n (true :: t) (by simp at h ⊢; omega) (fr_tail k)
    simp only [elim, balls, starts] at this ⊢; simp at this ⊢; omega
theorem starts_pos : ∀ {t : List Bool}, 0 < balls t → 0 < starts false t
  | false :: t, h => starts_pos (t := t) h
  | true :: t, _ => by simp [starts]; omega
  | [], h => by cases h
theorem starts_zero : ∀ {t : List Bool} {p : Bool}, balls t = 0 → starts p t = 0
  | false :: t, _, h => starts_zero (t := t) h
  | true :: t, _, h => by simp [balls] at h
  | [], _, _ => rfl
theorem tk_zero (r : Nat) : ∀ {t : List Bool} {x : Nat}, balls t = 0 → tk r x t = 0
  | false :: t, x, h => by simp [tk]; exact tk_zero r (t := t) h
  | true :: t, _, h => by simp [balls] at h
  | [], _, _ => rfl
theorem tk_room0 : ∀ (t : List Bool), tk 0 0 t = 0
  | [] => rfl
  | c :: t => by
    have : (stp 0 0 c).1 = 0 := by cases c <;> rfl
    simp [tk, this, tk_room0 t]
/-- the numbers of a text, by at most n turns -/
def nums : Nat → List Bool → List Nat
  | 0, _ => []
  | n + 1, t => if balls t = 0 then [] else starts false t :: nums n (elim t)
theorem nums_sum (r : Nat) : ∀ (n : Nat) (t : List Bool), balls t ≤ n → (fr t).isSome = true → ((nums n t).take r).sum = tk r 0 t := by
  induction r with
  | zero => intro n t _ _; simp [tk_room0]
  | succ r ih =>
    intro n t h k
    cases n with
    | zero => rw [tk_zero _ (by omega)]; simp [nums]
    | succ n =>
      unfold nums
      split
      · rename_i z; rw [tk_zero _ z]; simp
      · rename_i z
        have hb := balls_elim _ t (Nat.le_refl _) k
        have hp := starts_pos (t := t) (by omega)
        have hf : (fr (elim t)).isSome = true := by rw [fr_elim _ t (Nat.le_refl _) k]; exact k
        rw [List.take_succ_cons, List.sum_cons, ih n (elim t) (by omega) hf, (main_tk r _ t (Nat.le_refl _) k).1 0 (Nat.zero_le _)]
        omega
theorem nums_pos : ∀ (n : Nat) (t : List Bool), ∀ x ∈ nums n t, 0 < x
  | 0, _, x, h => by simp [nums] at h
  | n + 1, t, x, h => by
    unfold nums at h
    split at h
    · cases h
    · rename_i z
      rcases List.mem_cons.mp h with rfl | h
      · exact starts_pos (by omega)
      · exact nums_pos n _ x h
theorem same_of_sums : ∀ (l m : List Nat), (∀ x ∈ l, 0 < x) → (∀ x ∈ m, 0 < x) → (∀ r, (l.take r).sum = (m.take r).sum) → l = m
  | [], [], _, _, _ => rfl
  | [], y :: m, _, hm, h => by have := h 1; have := hm y (.head _); simp at *; omega
  | x :: l, [], hl, _, h => by have := h 1; have := hl x (.head _); simp at *; omega
  | x :: l, y :: m, hl, hm, h => by
    have e : x = y := by simpa using h 1
    subst e
    rw [same_of_sums l m (fun z q => hl z (.tail _ q)) (fun z q => hm z (.tail _ q)) fun r => by have := h (r + 1); simp at this; exact this]
def grownText (s : List Bool) : List Bool := s ++ zs (balls s)
def grown (s : List Bool) : List Nat := nums (balls s) (grownText s)
theorem balls_append : ∀ (a b : List Bool), balls (a ++ b) = balls a + balls b
  | [], b => by simp [balls]
  | true :: a, b => by simp [balls, balls_append a b]; omega
  | false :: a, b => by simp [balls, balls_append a b]
theorem balls_zs : ∀ n, balls (zs n) = 0
  | 0 => rfl
  | n + 1 => by rw [zs_succ]; simp [balls, balls_zs n]
theorem grown_ok (s : List Bool) : balls (grownText s) = balls s ∧ (fr (grownText s)).isSome = true := by
  refine ⟨by rw [grownText, balls_append, balls_zs]; rfl, ?_⟩
  obtain ⟨m, e, _⟩ := fr_pad s (balls s) 0 (by omega)
  unfold grownText; rw [e]; rfl
theorem grown_sum (s : List Bool) (r : Nat) : ((grown s).take r).sum = taken r s := by
  obtain ⟨h1, h2⟩ := grown_ok s
  rw [grown, nums_sum r _ _ (by omega) h2, taken_eq r s (balls s)]; rfl
theorem grown_pass (s : List Bool) (b : Nat) : grown (pass b s) = grown s :=
  same_of_sums _ _ (nums_pos _ _) (nums_pos _ _) fun r => by rw [grown_sum, grown_sum, taken_pass]

/-! all that the law asks -/
theorem three (a b c : Nat) (s : List Bool) : pass c (pass b (pass a s)) = pass a (pass b (pass c s)) := by
  rw [pass_comm b a, pass_comm c a, pass_comm c b]
theorem back_one (r m n : Nat) (u : List Bool) : pass r (zs m ++ (pass r u).reverse ++ zs n) = zs (m + r) ++ u.reverse ++ zs (r + n) := by
  rw [List.append_assoc, pass_zs_front, pass_zs_behind, pass_back]
  simp [zs_add, List.append_assoc]
theorem back_taken (r m n : Nat) (u : List Bool) : taken r (zs m ++ (pass r u).reverse ++ zs n) = taken r u := by
  rw [List.append_assoc, taken_zs_front, taken_zs_behind, taken_back]

end Mine.Bbs
end
noncomputable section
open PySem PySem.W PyProof.Rows
set_option maxRecDepth 100000
namespace Mine
abbrev P0 : Program := PySem.Challenge.pw_re0094_01
/-- the FuncData that the statement i of the text makes -/
noncomputable def fnAt (i : Nat) (gl : Addr) (pm cd : Value) (bl : Addr) : FuncData := match (P0.main.body[i]? : Option Stmt) with
  | some (.FunctionDef n a b _ _ _ sc _ _ _) => { name := n, qualname := n, params := a, body := .stmts b, scope := sc, globals := gl, closure := [], defaults := .none, kwdefaults := .none, pyModule := pm, code := cd, builtins := bl }
  | _ => default
/-- the pairs of the table b3_exceptions, as the text has them -/
noncomputable def b3Pairs : List (Int × Str) := match (P0.main.body[9]? : Option Stmt) with
  | some (.Assign _ (.Dict ks vs _) _) => (ks.zip vs).filterMap fun x => match x with
    | (some (.Constant (.int i) _ _), .Constant (.str s) _ _) => some (i, s)
    | _ => none
  | _ => []
noncomputable def b3E (x : (Int × Str) × Nat) : DictEntry :=
  if x.2 < 646 then ⟨x.1.1, .int x.1.1 (420 + 3 * x.2), .str x.1.2 (421 + 3 * x.2)⟩ else ⟨x.1.1, .int x.1.1 (2358 + 2 * (x.2 - 646)), .str x.1.2 (2359 + 2 * (x.2 - 646))⟩
noncomputable def b3Entries : List DictEntry := b3Pairs.zipIdx.map b3E
noncomputable def b3Obj : Obj := ⟨.type "dict", none, .dict b3Entries.toArray 650, #[]⟩
noncomputable def b3Chunk (c : Nat) : Obj := ⟨.type "dict", none, .dict ((b3Entries.drop (17 * c)).take 17).toArray (if c = 38 then 4 else 17), #[]⟩
noncomputable def o0S0 (P : Params) : Obj := ⟨.type "dict", none, .dict #[⟨PyData.keyHash P (Str.ofString "__name__"), .str (Str.ofString "__name__") 1, .str (Str.ofString "builtins") 160⟩, ⟨PyData.keyHash P (Str.ofString "__doc__"), .str (Str.ofString "__doc__") 2, .builtin "builtins.__doc__:str#opaque"⟩, ⟨PyData.keyHash P (Str.ofString "__package__"), .str (Str.ofString "__package__") 3, .builtin "builtins.__package__:str#opaque"⟩, ⟨PyData.keyHash P (Str.ofString "__loader__"), .str (Str.ofString "__loader__") 4, .builtin "builtins.__loader__:shared#opaque"⟩, ⟨PyData.keyHash P (Str.ofString "__spec__"), .str (Str.ofString "__spec__") 5, .builtin "builtins.__spec__#opaque"⟩, ⟨PyData.keyHash P (Str.ofString "__build_class__"), .str (Str.ofString "__build_class__") 6, .builtin "__build_class__"⟩, ⟨PyData.keyHash P (Str.ofString "__import__"), .str (Str.ofString "__import__") 7, .builtin "__import__"⟩, ⟨PyData.keyHash P (Str.ofString "abs"), .str (Str.ofString "abs") 8, .builtin "abs"⟩, ⟨PyData.keyHash P (Str.ofString "all"), .str (Str.ofString "all") 9, .builtin "all"⟩, ⟨PyData.keyHash P (Str.ofString "any"), .str (Str.ofString "any") 10, .builtin "any"⟩, ⟨PyData.keyHash P (Str.ofString "ascii"), .str (Str.ofString "ascii") 11, .builtin "ascii"⟩, ⟨PyData.keyHash P (Str.ofString "bin"), .str (Str.ofString "bin") 12, .builtin "bin"⟩, ⟨PyData.keyHash P (Str.ofString "breakpoint"), .str (Str.ofString "breakpoint") 13, .builtin "breakpoint"⟩, ⟨PyData.keyHash P (Str.ofString "callable"), .str (Str.ofString "callable") 14, .builtin "callable"⟩, ⟨PyData.keyHash P (Str.ofString "chr"), .str (Str.ofString "chr") 15, .builtin "chr"⟩, ⟨PyData.keyHash P (Str.ofString "compile"), .str (Str.ofString "compile") 16, .builtin "compile"⟩, ⟨PyData.keyHash P (Str.ofString "delattr"), .str (Str.ofString "delattr") 17, .builtin "delattr"⟩, ⟨PyData.keyHash P (Str.ofString "dir"), .str (Str.ofString "dir") 18, .builtin "dir"⟩, ⟨PyData.keyHash P (Str.ofString "divmod"), .str (Str.ofString "divmod") 19, .builtin "divmod"⟩, ⟨PyData.keyHash P (Str.ofString "eval"), .str (Str.ofString "eval") 20, .builtin "eval"⟩, ⟨PyData.keyHash P (Str.ofString "exec"), .str (Str.ofString "exec") 21, .builtin "exec"⟩, ⟨PyData.keyHash P (Str.ofString "format"), .str (Str.ofString "format") 22, .builtin "format"⟩, ⟨PyData.keyHash P (Str.ofString "getattr"), .str (Str.ofString "getattr") 23, .builtin "getattr"⟩, ⟨PyData.keyHash P (Str.ofString "globals"), .str (Str.ofString "globals") 24, .builtin "globals"⟩, ⟨PyData.keyHash P (Str.ofString "hasattr"), .str (Str.ofString "hasattr") 25, .builtin "hasattr"⟩, ⟨PyData.keyHash P (Str.ofString "hash"), .str (Str.ofString "hash") 26, .builtin "hash"⟩, ⟨PyData.keyHash P (Str.ofString "hex"), .str (Str.ofString "hex") 27, .builtin "hex"⟩, ⟨PyData.keyHash P (Str.ofString "id"), .str (Str.ofString "id") 28, .builtin "id"⟩, ⟨PyData.keyHash P (Str.ofString "input"), .str (Str.ofString "input") 29, .builtin "input"⟩, ⟨PyData.keyHash P (Str.ofString "isinstance"), .str (Str.ofString "isinstance") 30, .builtin "isinstance"⟩, ⟨PyData.keyHash P (Str.ofString "issubclass"), .str (Str.ofString "issubclass") 31, .builtin "issubclass"⟩, ⟨PyData.keyHash P (Str.ofString "iter"), .str (Str.ofString "iter") 32, .builtin "iter"⟩, ⟨PyData.keyHash P (Str.ofString "aiter"), .str (Str.ofString "aiter") 33, .builtin "aiter"⟩, ⟨PyData.keyHash P (Str.ofString "len"), .str (Str.ofString "len") 34, .builtin "len"⟩, ⟨PyData.keyHash P (Str.ofString "locals"), .str (Str.ofString "locals") 35, .builtin "locals"⟩, ⟨PyData.keyHash P (Str.ofString "max"), .str (Str.ofString "max") 36, .builtin "max"⟩, ⟨PyData.keyHash P (Str.ofString "min"), .str (Str.ofString "min") 37, .builtin "min"⟩, ⟨PyData.keyHash P (Str.ofString "next"), .str (Str.ofString "next") 38, .builtin "next"⟩, ⟨PyData.keyHash P (Str.ofString "anext"), .str (Str.ofString "anext") 39, .builtin "anext"⟩, ⟨PyData.keyHash P (Str.ofString "oct"), .str (Str.ofString "oct") 40, .builtin "oct"⟩, ⟨PyData.keyHash P (Str.ofString "ord"), .str (Str.ofString "ord") 41, .builtin "ord"⟩, ⟨PyData.keyHash P (Str.ofString "pow"), .str (Str.ofString "pow") 42, .builtin "pow"⟩, ⟨PyData.keyHash P (Str.ofString "print"), .str (Str.ofString "print") 43, .builtin "print"⟩, ⟨PyData.keyHash P (Str.ofString "repr"), .str (Str.ofString "repr") 44, .builtin "repr"⟩, ⟨PyData.keyHash P (Str.ofString "round"), .str (Str.ofString "round") 45, .builtin "round"⟩, ⟨PyData.keyHash P (Str.ofString "setattr"), .str (Str.ofString "setattr") 46, .builtin "setattr"⟩, ⟨PyData.keyHash P (Str.ofString "sorted"), .str (Str.ofString "sorted") 47, .builtin "sorted"⟩, ⟨PyData.keyHash P (Str.ofString "sum"), .str (Str.ofString "sum") 48, .builtin "sum"⟩, ⟨PyData.keyHash P (Str.ofString "vars"), .str (Str.ofString "vars") 49, .builtin "vars"⟩, ⟨PyData.keyHash P (Str.ofString "None"), .str (Str.ofString "None") 50, .none⟩, ⟨PyData.keyHash P (Str.ofString "Ellipsis"), .str (Str.ofString "Ellipsis") 51, .ellipsis⟩, ⟨PyData.keyHash P (Str.ofString "NotImplemented"), .str (Str.ofString "NotImplemented") 52, .notImplemented⟩, ⟨PyData.keyHash P (Str.ofString "False"), .str (Str.ofString "False") 53, .bool false⟩, ⟨PyData.keyHash P (Str.ofString "True"), .str (Str.ofString "True") 54, .bool true⟩, ⟨PyData.keyHash P (Str.ofString "bool"), .str (Str.ofString "bool") 55, .type "bool"⟩, ⟨PyData.keyHash P (Str.ofString "memoryview"), .str (Str.ofString "memoryview") 56, .type "memoryview"⟩, ⟨PyData.keyHash P (Str.ofString "bytearray"), .str (Str.ofString "bytearray") 57, .type "bytearray"⟩, ⟨PyData.keyHash P (Str.ofString "bytes"), .str (Str.ofString "bytes") 58, .type "bytes"⟩, ⟨PyData.keyHash P (Str.ofString "classmethod"), .str (Str.ofString "classmethod") 59, .type "classmethod"⟩, ⟨PyData.keyHash P (Str.ofString "complex"), .str (Str.ofString "complex") 60, .type "complex"⟩, ⟨PyData.keyHash P (Str.ofString "dict"), .str (Str.ofString "dict") 61, .type "dict"⟩, ⟨PyData.keyHash P (Str.ofString "enumerate"), .str (Str.ofString "enumerate") 62, .type "enumerate"⟩, ⟨PyData.keyHash P (Str.ofString "filter"), .str (Str.ofString "filter") 63, .type "filter"⟩, ⟨PyData.keyHash P (Str.ofString "float"), .str (Str.ofString "float") 64, .type "float"⟩, ⟨PyData.keyHash P (Str.ofString "frozenset"), .str (Str.ofString "frozenset") 65, .type "frozenset"⟩, ⟨PyData.keyHash P (Str.ofString "property"), .str (Str.ofString "property") 66, .type "property"⟩, ⟨PyData.keyHash P (Str.ofString "int"), .str (Str.ofString "int") 67, .type "int"⟩, ⟨PyData.keyHash P (Str.ofString "list"), .str (Str.ofString "list") 68, .type "list"⟩, ⟨PyData.keyHash P (Str.ofString "map"), .str (Str.ofString "map") 69, .type "map"⟩, ⟨PyData.keyHash P (Str.ofString "object"), .str (Str.ofString "object") 70, .type "object"⟩, ⟨PyData.keyHash P (Str.ofString "range"), .str (Str.ofString "range") 71, .type "range"⟩, ⟨PyData.keyHash P (Str.ofString "reversed"), .str (Str.ofString "reversed") 72, .type "reversed"⟩, ⟨PyData.keyHash P (Str.ofString "set"), .str (Str.ofString "set") 73, .type "set"⟩, ⟨PyData.keyHash P (Str.ofString "slice"), .str (Str.ofString "slice") 74, .type "slice"⟩, ⟨PyData.keyHash P (Str.ofString "staticmethod"), .str (Str.ofString "staticmethod") 75, .type "staticmethod"⟩, ⟨PyData.keyHash P (Str.ofString "str"), .str (Str.ofString "str") 76, .type "str"⟩, ⟨PyData.keyHash P (Str.ofString "super"), .str (Str.ofString "super") 77, .type "super"⟩, ⟨PyData.keyHash P (Str.ofString "tuple"), .str (Str.ofString "tuple") 78, .type "tuple"⟩, ⟨PyData.keyHash P (Str.ofString "type"), .str (Str.ofString "type") 79, .type "type"⟩, ⟨PyData.keyHash P (Str.ofString "zip"), .str (Str.ofString "zip") 80, .type "zip"⟩, ⟨PyData.keyHash P (Str.ofString "__debug__"), .str (Str.ofString "__debug__") 81, .bool true⟩, ⟨PyData.keyHash P (Str.ofString "BaseException"), .str (Str.ofString "BaseException") 82, .type "BaseException"⟩, ⟨PyData.keyHash P (Str.ofString "BaseExceptionGroup"), .str (Str.ofString "BaseExceptionGroup") 83, .type "BaseExceptionGroup"⟩, ⟨PyData.keyHash P (Str.ofString "Exception"), .str (Str.ofString "Exception") 84, .type "Exception"⟩, ⟨PyData.keyHash P (Str.ofString "GeneratorExit"), .str (Str.ofString "GeneratorExit") 85, .type "GeneratorExit"⟩, ⟨PyData.keyHash P (Str.ofString "KeyboardInterrupt"), .str (Str.ofString "KeyboardInterrupt") 86, .type "KeyboardInterrupt"⟩, ⟨PyData.keyHash P (Str.ofString "SystemExit"), .str (Str.ofString "SystemExit") 87, .type "SystemExit"⟩, ⟨PyData.keyHash P (Str.ofString "ArithmeticError"), .str (Str.ofString "ArithmeticError") 88, .type "ArithmeticError"⟩, ⟨PyData.keyHash P (Str.ofString "AssertionError"), .str (Str.ofString "AssertionError") 89, .type "AssertionError"⟩, ⟨PyData.keyHash P (Str.ofString "AttributeError"), .str (Str.ofString "AttributeError") 90, .type "AttributeError"⟩, ⟨PyData.keyHash P (Str.ofString "BufferError"), .str (Str.ofString "BufferError") 91, .type "BufferError"⟩, ⟨PyData.keyHash P (Str.ofString "EOFError"), .str (Str.ofString "EOFError") 92, .type "EOFError"⟩, ⟨PyData.keyHash P (Str.ofString "ImportError"), .str (Str.ofString "ImportError") 93, .type "ImportError"⟩, ⟨PyData.keyHash P (Str.ofString "LookupError"), .str (Str.ofString "LookupError") 94, .type "LookupError"⟩, ⟨PyData.keyHash P (Str.ofString "MemoryError"), .str (Str.ofString "MemoryError") 95, .type "MemoryError"⟩, ⟨PyData.keyHash P (Str.ofString "NameError"), .str (Str.ofString "NameError") 96, .type "NameError"⟩, ⟨PyData.keyHash P (Str.ofString "OSError"), .str (Str.ofString "OSError") 97, .type "OSError"⟩, ⟨PyData.keyHash P (Str.ofString "ReferenceError"), .str (Str.ofString "ReferenceError") 98, .type "ReferenceError"⟩, ⟨PyData.keyHash P (Str.ofString "RuntimeError"), .str (Str.ofString "RuntimeError") 99, .type "RuntimeError"⟩, ⟨PyData.keyHash P (Str.ofString "StopAsyncIteration"), .str (Str.ofString "StopAsyncIteration") 100, .type "StopAsyncIteration"⟩, ⟨PyData.keyHash P (Str.ofString "StopIteration"), .str (Str.ofString "StopIteration") 101, .type "StopIteration"⟩, ⟨PyData.keyHash P (Str.ofString "SyntaxError"), .str (Str.ofString "SyntaxError") 102, .type "SyntaxError"⟩, ⟨PyData.keyHash P (Str.ofString "SystemError"), .str (Str.ofString "SystemError") 103, .type "SystemError"⟩, ⟨PyData.keyHash P (Str.ofString "TypeError"), .str (Str.ofString "TypeError") 104, .type "TypeError"⟩, ⟨PyData.keyHash P (Str.ofString "ValueError"), .str (Str.ofString "ValueError") 105, .type "ValueError"⟩, ⟨PyData.keyHash P (Str.ofString "Warning"), .str (Str.ofString "Warning") 106, .type "Warning"⟩, ⟨PyData.keyHash P (Str.ofString "FloatingPointError"), .str (Str.ofString "FloatingPointError") 107, .type "FloatingPointError"⟩, ⟨PyData.keyHash P (Str.ofString "OverflowError"), .str (Str.ofString "OverflowError") 108, .type "OverflowError"⟩, ⟨PyData.keyHash P (Str.ofString "ZeroDivisionError"), .str (Str.ofString "ZeroDivisionError") 109, .type "ZeroDivisionError"⟩, ⟨PyData.keyHash P (Str.ofString "BytesWarning"), .str (Str.ofString "BytesWarning") 110, .type "BytesWarning"⟩, ⟨PyData.keyHash P (Str.ofString "DeprecationWarning"), .str (Str.ofString "DeprecationWarning") 111, .type "DeprecationWarning"⟩, ⟨PyData.keyHash P (Str.ofString "EncodingWarning"), .str (Str.ofString "EncodingWarning") 112, .type "EncodingWarning"⟩, ⟨PyData.keyHash P (Str.ofString "FutureWarning"), .str (Str.ofString "FutureWarning") 113, .type "FutureWarning"⟩, ⟨PyData.keyHash P (Str.ofString "ImportWarning"), .str (Str.ofString "ImportWarning") 114, .type "ImportWarning"⟩, ⟨PyData.keyHash P (Str.ofString "PendingDeprecationWarning"), .str (Str.ofString "PendingDeprecationWarning") 115, .type "PendingDeprecationWarning"⟩, ⟨PyData.keyHash P (Str.ofString "ResourceWarning"), .str (Str.ofString "ResourceWarning") 116, .type "ResourceWarning"⟩, ⟨PyData.keyHash P (Str.ofString "RuntimeWarning"), .str (Str.ofString "RuntimeWarning") 117, .type "RuntimeWarning"⟩, ⟨PyData.keyHash P (Str.ofString "SyntaxWarning"), .str (Str.ofString "SyntaxWarning") 118, .type "SyntaxWarning"⟩, ⟨PyData.keyHash P (Str.ofString "UnicodeWarning"), .str (Str.ofString "UnicodeWarning") 119, .type "UnicodeWarning"⟩, ⟨PyData.keyHash P (Str.ofString "UserWarning"), .str (Str.ofString "UserWarning") 120, .type "UserWarning"⟩, ⟨PyData.keyHash P (Str.ofString "BlockingIOError"), .str (Str.ofString "BlockingIOError") 121, .type "BlockingIOError"⟩, ⟨PyData.keyHash P (Str.ofString "ChildProcessError"), .str (Str.ofString "ChildProcessError") 122, .type "ChildProcessError"⟩, ⟨PyData.keyHash P (Str.ofString "ConnectionError"), .str (Str.ofString "ConnectionError") 123, .type "ConnectionError"⟩, ⟨PyData.keyHash P (Str.ofString "FileExistsError"), .str (Str.ofString "FileExistsError") 124, .type "FileExistsError"⟩, ⟨PyData.keyHash P (Str.ofString "FileNotFoundError"), .str (Str.ofString "FileNotFoundError") 125, .type "FileNotFoundError"⟩, ⟨PyData.keyHash P (Str.ofString "InterruptedError"), .str (Str.ofString "InterruptedError") 126, .type "InterruptedError"⟩, ⟨PyData.keyHash P (Str.ofString "IsADirectoryError"), .str (Str.ofString "IsADirectoryError") 127, .type "IsADirectoryError"⟩, ⟨PyData.keyHash P (Str.ofString "NotADirectoryError"), .str (Str.ofString "NotADirectoryError") 128, .type "NotADirectoryError"⟩, ⟨PyData.keyHash P (Str.ofString "PermissionError"), .str (Str.ofString "PermissionError") 129, .type "PermissionError"⟩, ⟨PyData.keyHash P (Str.ofString "ProcessLookupError"), .str (Str.ofString "ProcessLookupError") 130, .type "ProcessLookupError"⟩, ⟨PyData.keyHash P (Str.ofString "TimeoutError"), .str (Str.ofString "TimeoutError") 131, .type "TimeoutError"⟩, ⟨PyData.keyHash P (Str.ofString "IndentationError"), .str (Str.ofString "IndentationError") 132, .type "IndentationError"⟩, ⟨PyData.keyHash P (Str.ofString "_IncompleteInputError"), .str (Str.ofString "_IncompleteInputError") 133, .type "_IncompleteInputError"⟩, ⟨PyData.keyHash P (Str.ofString "IndexError"), .str (Str.ofString "IndexError") 134, .type "IndexError"⟩, ⟨PyData.keyHash P (Str.ofString "KeyError"), .str (Str.ofString "KeyError") 135, .type "KeyError"⟩, ⟨PyData.keyHash P (Str.ofString "ModuleNotFoundError"), .str (Str.ofString "ModuleNotFoundError") 136, .type "ModuleNotFoundError"⟩, ⟨PyData.keyHash P (Str.ofString "NotImplementedError"), .str (Str.ofString "NotImplementedError") 137, .type "NotImplementedError"⟩, ⟨PyData.keyHash P (Str.ofString "PythonFinalizationError"), .str (Str.ofString "PythonFinalizationError") 138, .type "PythonFinalizationError"⟩, ⟨PyData.keyHash P (Str.ofString "RecursionError"), .str (Str.ofString "RecursionError") 139, .type "RecursionError"⟩, ⟨PyData.keyHash P (Str.ofString "UnboundLocalError"), .str (Str.ofString "UnboundLocalError") 140, .type "UnboundLocalError"⟩, ⟨PyData.keyHash P (Str.ofString "UnicodeError"), .str (Str.ofString "UnicodeError") 141, .type "UnicodeError"⟩, ⟨PyData.keyHash P (Str.ofString "BrokenPipeError"), .str (Str.ofString "BrokenPipeError") 142, .type "BrokenPipeError"⟩, ⟨PyData.keyHash P (Str.ofString "ConnectionAbortedError"), .str (Str.ofString "ConnectionAbortedError") 143, .type "ConnectionAbortedError"⟩, ⟨PyData.keyHash P (Str.ofString "ConnectionRefusedError"), .str (Str.ofString "ConnectionRefusedError") 144, .type "ConnectionRefusedError"⟩, ⟨PyData.keyHash P (Str.ofString "ConnectionResetError"), .str (Str.ofString "ConnectionResetError") 145, .type "ConnectionResetError"⟩, ⟨PyData.keyHash P (Str.ofString "TabError"), .str (Str.ofString "TabError") 146, .type "TabError"⟩, ⟨PyData.keyHash P (Str.ofString "UnicodeDecodeError"), .str (Str.ofString "UnicodeDecodeError") 147, .type "UnicodeDecodeError"⟩, ⟨PyData.keyHash P (Str.ofString "UnicodeEncodeError"), .str (Str.ofString "UnicodeEncodeError") 148, .type "UnicodeEncodeError"⟩, ⟨PyData.keyHash P (Str.ofString "UnicodeTranslateError"), .str (Str.ofString "UnicodeTranslateError") 149, .type "UnicodeTranslateError"⟩, ⟨PyData.keyHash P (Str.ofString "ExceptionGroup"), .str (Str.ofString "ExceptionGroup") 150, .type "ExceptionGroup"⟩, ⟨PyData.keyHash P (Str.ofString "EnvironmentError"), .str (Str.ofString "EnvironmentError") 151, .type "OSError"⟩, ⟨PyData.keyHash P (Str.ofString "IOError"), .str (Str.ofString "IOError") 152, .type "OSError"⟩, ⟨PyData.keyHash P (Str.ofString "open"), .str (Str.ofString "open") 153, .builtin "open"⟩, ⟨PyData.keyHash P (Str.ofString "quit"), .str (Str.ofString "quit") 154, .builtin "builtins.quit#opaque"⟩, ⟨PyData.keyHash P (Str.ofString "exit"), .str (Str.ofString "exit") 155, .builtin "builtins.exit#opaque"⟩, ⟨PyData.keyHash P (Str.ofString "copyright"), .str (Str.ofString "copyright") 156, .builtin "builtins.copyright#opaque"⟩, ⟨PyData.keyHash P (Str.ofString "credits"), .str (Str.ofString "credits") 157, .builtin "builtins.credits#opaque"⟩, ⟨PyData.keyHash P (Str.ofString "license"), .str (Str.ofString "license") 158, .builtin "builtins.license#opaque"⟩, ⟨PyData.keyHash P (Str.ofString "help"), .str (Str.ofString "help") 159, .builtin "builtins.help#opaque"⟩] 159, #[]⟩
noncomputable def o1S0 (P : Params) : Obj := ⟨.type "dict", none, .dict #[⟨PyData.keyHash P (Str.ofString "builtins"), .str (Str.ofString "builtins") 162, .ref 4⟩, ⟨PyData.keyHash P (Str.ofString "__main__"), .str (Str.ofString "__main__") 163, .ref 5⟩, ⟨PyData.keyHash P (Str.ofString "_sre"), .str (Str.ofString "_sre") 244, .ref 12⟩] 3, #[]⟩
noncomputable def o2S0 (P : Params) : Obj := ⟨.none, none, .dict #[⟨PyData.keyHash P (Str.mk #[105, 109, 112, 111, 114, 116, 46, 108, 111, 97, 100, 101, 100, 46, 95, 115, 114, 101]), .str (Str.mk #[105, 109, 112, 111, 114, 116, 46, 108, 111, 97, 100, 101, 100, 46, 95, 115, 114, 101]) 183, .bool true⟩, ⟨PyData.keyHash P (Str.ofString "class._frozen_importlib.BuiltinImporter"), .str (Str.ofString "class._frozen_importlib.BuiltinImporter") 185, .ref 14⟩, ⟨PyData.keyHash P (Str.mk #[119, 97, 116, 99, 104, 101, 100, 46, 105, 109, 112, 111, 114, 116]), .str (Str.mk #[119, 97, 116, 99, 104, 101, 100, 46, 105, 109, 112, 111, 114, 116]) 206, .ref 18⟩, ⟨PyData.keyHash P (Str.ofString "class._frozen_importlib.ModuleSpec"), .str (Str.ofString "class._frozen_importlib.ModuleSpec") 216, .ref 22⟩, ⟨PyData.keyHash P (Str.ofString "sys.modules.booked-epoch"), .str (Str.ofString "sys.modules.booked-epoch") 245, .int 3 0⟩, ⟨PyData.keyHash P (Str.mk #[105, 109, 112, 111, 114, 116, 46, 108, 97, 116, 101, 114, 45, 108, 97, 105, 100, 46, 95, 115, 114, 101]), .str (Str.mk #[105, 109, 112, 111, 114, 116, 46, 108, 97, 116, 101, 114, 45, 108, 97, 105, 100, 46, 95, 115, 114, 101]) 270, .bool true⟩, ⟨PyData.keyHash P (Str.ofString "watched.library"), .str (Str.ofString "watched.library") 272, .ref 27⟩, ⟨PyData.keyHash P (Str.ofString "watched.library-objects"), .str (Str.ofString "watched.library-objects") 0, .str (Str.mk #[12]) 0⟩, ⟨PyData.keyHash P (Str.ofString "watched.library-deep._sre"), .str (Str.ofString "watched.library-deep._sre") 273, .str (Str.mk #[4, 0, 0, 11, 4, 0, 0, 11, 4, 0, 0, 3, 4, 0, 0, 11, 8, 4, 100, 105, 99, 116, 2]) 0⟩] 9, #[]⟩
noncomputable def o3S0 (P : Params) : Obj := ⟨.type "dict", none, .dict #[⟨PyData.keyHash P (Str.ofString "__name__"), .str (Str.ofString "__name__") 165, .str (Str.ofString "__main__") 164⟩, ⟨PyData.keyHash P (Str.ofString "__doc__"), .str (Str.ofString "__doc__") 166, .none⟩, ⟨PyData.keyHash P (Str.ofString "__package__"), .str (Str.ofString "__package__") 167, .none⟩, ⟨PyData.keyHash P (Str.ofString "__loader__"), .str (Str.ofString "__loader__") 168, .builtin "__main__.__loader__#opaque"⟩, ⟨PyData.keyHash P (Str.ofString "__spec__"), .str (Str.ofString "__spec__") 169, .none⟩, ⟨PyData.keyHash P (Str.ofString "__annotations__"), .str (Str.ofString "__annotations__") 170, .ref 6⟩, ⟨PyData.keyHash P (Str.ofString "__builtins__"), .str (Str.ofString "__builtins__") 171, .ref 4⟩, ⟨PyData.keyHash P (Str.ofString "__file__"), .str (Str.ofString "__file__") 173, .str (Str.ofString "/claim/cut.py") 172⟩, ⟨PyData.keyHash P (Str.ofString "__cached__"), .str (Str.ofString "__cached__") 174, .none⟩, ⟨PyData.keyHash P (Str.ofString "_sre"), .str (Str.ofString "_sre") 275, .ref 12⟩] 10, #[]⟩
noncomputable def o4S0 (P : Params) : Obj := ⟨.type "module", (some 0), .plain, #[]⟩
noncomputable def o5S0 (P : Params) : Obj := ⟨.type "module", (some 3), .plain, #[]⟩
noncomputable def o6S0 (P : Params) : Obj := ⟨.type "dict", none, .dict #[] 0, #[]⟩
noncomputable def o7S0 (P : Params) : Obj := ⟨.type "tuple", none, .seq #[] 0, #[]⟩
noncomputable def o8S0 (P : Params) : Obj := ⟨.none, none, .fields #[], #[]⟩
noncomputable def o9S0 (P : Params) : Obj := ⟨.type "code", none, .fields #[.str (Str.ofString "<module>") 176, .str (Str.ofString "<module>") 177, .str (Str.ofString "/claim/cut.py") 178, .int 1 0, .int 0 0, .int 0 0, .int 0 0, .int 0 0, .ref 7, .bool false, .int 175 0, .ref 8, .none, .none, .none, .none, .int 179 0, .int 1 0, .str (Str.ofString "/claim/cut.py") 180], #[]⟩
noncomputable def o10S0 (P : Params) : Obj := ⟨.type "frame", none, .plain, #[some (.ref 9), some (.ref 3), some (.ref 3), none, some (.str (Str.ofString "__main__") 164), none, some (.ref 0)]⟩
noncomputable def o11S0 (P : Params) : Obj := ⟨.type "dict", none, .dict #[⟨PyData.keyHash P (Str.ofString "__name__"), .str (Str.ofString "__name__") 247, .str (Str.ofString "_sre") 246⟩, ⟨PyData.keyHash P (Str.ofString "__doc__"), .str (Str.ofString "__doc__") 248, .none⟩, ⟨PyData.keyHash P (Str.ofString "__package__"), .str (Str.ofString "__package__") 250, .str (Str.ofString "") 249⟩, ⟨PyData.keyHash P (Str.ofString "__loader__"), .str (Str.ofString "__loader__") 251, .builtin "off-the-table:_sre.__loader__:shared#opaque"⟩, ⟨PyData.keyHash P (Str.ofString "__spec__"), .str (Str.ofString "__spec__") 252, .builtin "off-the-table:_sre.__spec__:shared#opaque"⟩, ⟨PyData.keyHash P (Str.ofString "compile"), .str (Str.ofString "compile") 253, .builtin "_sre.compile"⟩, ⟨PyData.keyHash P (Str.ofString "template"), .str (Str.ofString "template") 254, .builtin "off-the-table:_sre.template:shared#opaque"⟩, ⟨PyData.keyHash P (Str.ofString "getcodesize"), .str (Str.ofString "getcodesize") 255, .builtin "off-the-table:_sre.getcodesize:shared#opaque"⟩, ⟨PyData.keyHash P (Str.ofString "ascii_iscased"), .str (Str.ofString "ascii_iscased") 256, .builtin "off-the-table:_sre.ascii_iscased:shared#opaque"⟩, ⟨PyData.keyHash P (Str.ofString "unicode_iscased"), .str (Str.ofString "unicode_iscased") 257, .builtin "off-the-table:_sre.unicode_iscased:shared#opaque"⟩, ⟨PyData.keyHash P (Str.ofString "ascii_tolower"), .str (Str.ofString "ascii_tolower") 258, .builtin "off-the-table:_sre.ascii_tolower:shared#opaque"⟩, ⟨PyData.keyHash P (Str.ofString "unicode_tolower"), .str (Str.ofString "unicode_tolower") 259, .builtin "off-the-table:_sre.unicode_tolower:shared#opaque"⟩, ⟨PyData.keyHash P (Str.ofString "MAGIC"), .str (Str.ofString "MAGIC") 261, .int 20230612 260⟩, ⟨PyData.keyHash P (Str.ofString "CODESIZE"), .str (Str.ofString "CODESIZE") 263, .int 4 262⟩, ⟨PyData.keyHash P (Str.ofString "MAXREPEAT"), .str (Str.ofString "MAXREPEAT") 265, .int 4294967295 264⟩, ⟨PyData.keyHash P (Str.ofString "MAXGROUPS"), .str (Str.ofString "MAXGROUPS") 267, .int 1073741823 266⟩, ⟨PyData.keyHash P (Str.ofString "copyright"), .str (Str.ofString "copyright") 269, .str (Str.mk #[32, 83, 82, 69, 32, 50, 46, 50, 46, 50, 32, 67, 111, 112, 121, 114, 105, 103, 104, 116, 32, 40, 99, 41, 32, 49, 57, 57, 55, 45, 50, 48, 48, 50, 32, 98, 121, 32, 83, 101, 99, 114, 101, 116, 32, 76, 97, 98, 115, 32, 65, 66, 32]) 268⟩] 17, #[]⟩
noncomputable def o12S0 (P : Params) : Obj := ⟨.type "module", (some 11), .plain, #[]⟩
noncomputable def o13S0 (P : Params) : Obj := ⟨.type "dict", none, .dict #[⟨PyData.keyHash P (Str.ofString "__module__"), .str (Str.ofString "__module__") 189, .str (Str.ofString "_frozen_importlib") 186⟩, ⟨PyData.keyHash P (Str.ofString "__firstlineno__"), .str (Str.ofString "__firstlineno__") 190, .int 971 187⟩, ⟨PyData.keyHash P (Str.ofString "__doc__"), .str (Str.ofString "__doc__") 191, .builtin "_frozen_importlib.BuiltinImporter.__doc__:str#opaque"⟩, ⟨PyData.keyHash P (Str.ofString "_ORIGIN"), .str (Str.ofString "_ORIGIN") 192, .str (Str.ofString "built-in") 188⟩, ⟨PyData.keyHash P (Str.ofString "find_spec"), .str (Str.ofString "find_spec") 193, .builtin "_frozen_importlib.BuiltinImporter.find_spec#opaque"⟩, ⟨PyData.keyHash P (Str.ofString "create_module"), .str (Str.ofString "create_module") 194, .builtin "_frozen_importlib.BuiltinImporter.create_module#opaque"⟩, ⟨PyData.keyHash P (Str.ofString "exec_module"), .str (Str.ofString "exec_module") 195, .builtin "_frozen_importlib.BuiltinImporter.exec_module#opaque"⟩, ⟨PyData.keyHash P (Str.ofString "get_code"), .str (Str.ofString "get_code") 196, .builtin "_frozen_importlib.BuiltinImporter.get_code#opaque"⟩, ⟨PyData.keyHash P (Str.ofString "get_source"), .str (Str.ofString "get_source") 197, .builtin "_frozen_importlib.BuiltinImporter.get_source#opaque"⟩, ⟨PyData.keyHash P (Str.ofString "is_package"), .str (Str.ofString "is_package") 198, .builtin "_frozen_importlib.BuiltinImporter.is_package#opaque"⟩, ⟨PyData.keyHash P (Str.ofString "load_module"), .str (Str.ofString "load_module") 199, .builtin "_frozen_importlib.BuiltinImporter.load_module#opaque"⟩, ⟨PyData.keyHash P (Str.ofString "__static_attributes__"), .str (Str.ofString "__static_attributes__") 200, .ref 15⟩, ⟨PyData.keyHash P (Str.ofString "__dict__"), .str (Str.ofString "__dict__") 202, .ref 16⟩, ⟨PyData.keyHash P (Str.ofString "__weakref__"), .str (Str.ofString "__weakref__") 204, .ref 17⟩] 14, #[]⟩
noncomputable def o14S0 (P : Params) : Obj := ⟨.type "type", none, .cls ⟨(Str.ofString "BuiltinImporter"), [.type "object"], [.ref 14, .type "object"], 13, (Str.ofString "BuiltinImporter"), true, [], [], false, none, false⟩, #[]⟩
noncomputable def o15S0 (P : Params) : Obj := ⟨.type "tuple", none, .seq #[] 0, #[]⟩
noncomputable def o16S0 (P : Params) : Obj := ⟨.type "getset_descriptor", none, .fields #[.str (Str.ofString "__dict__") 201, .ref 14, .builtin "function.__dict__", .builtin "function.__dict__#set"], #[]⟩
noncomputable def o17S0 (P : Params) : Obj := ⟨.type "getset_descriptor", none, .fields #[.str (Str.ofString "__weakref__") 203, .ref 14, .builtin "ExceptionGroup.__weakref__", .none], #[]⟩
noncomputable def o18S0 (P : Params) : Obj := ⟨.none, none, .seq #[.int 13 0, .str (Str.mk #[6, 189, 10, 95, 95, 109, 111, 100, 117, 108, 101, 95, 95, 6, 186, 17, 95, 102, 114, 111, 122, 101, 110, 95, 105, 109, 112, 111, 114, 116, 108, 105, 98, 6, 190, 15, 95, 95, 102, 105, 114, 115, 116, 108, 105, 110, 101, 110, 111, 95, 95, 4, 187, 0, 971, 6, 191, 7, 95, 95, 100, 111, 99, 95, 95, 9, 52, 95, 102, 114, 111, 122, 101, 110, 95, 105, 109, 112, 111, 114, 116, 108, 105, 98, 46, 66, 117, 105, 108, 116, 105, 110, 73, 109, 112, 111, 114, 116, 101, 114, 46, 95, 95, 100, 111, 99, 95, 95, 58, 115, 116, 114, 35, 111, 112, 97, 113, 117, 101, 6, 192, 7, 95, 79, 82, 73, 71, 73, 78, 6, 188, 8, 98, 117, 105, 108, 116, 45, 105, 110, 6, 193, 9, 102, 105, 110, 100, 95, 115, 112, 101, 99, 9, 50, 95, 102, 114, 111, 122, 101, 110, 95, 105, 109, 112, 111, 114, 116, 108, 105, 98, 46, 66, 117, 105, 108, 116, 105, 110, 73, 109, 112, 111, 114, 116, 101, 114, 46, 102, 105, 110, 100, 95, 115, 112, 101, 99, 35, 111, 112, 97, 113, 117, 101, 6, 194, 13, 99, 114, 101, 97, 116, 101, 95, 109, 111, 100, 117, 108, 101, 9, 54, 95, 102, 114, 111, 122, 101, 110, 95, 105, 109, 112, 111, 114, 116, 108, 105, 98, 46, 66, 117, 105, 108, 116, 105, 110, 73, 109, 112, 111, 114, 116, 101, 114, 46, 99, 114, 101, 97, 116, 101, 95, 109, 111, 100, 117, 108, 101, 35, 111, 112, 97, 113, 117, 101, 6, 195, 11, 101, 120, 101, 99, 95, 109, 111, 100, 117, 108, 101, 9, 52, 95, 102, 114, 111, 122, 101, 110, 95, 105, 109, 112, 111, 114, 116, 108, 105, 98, 46, 66, 117, 105, 108, 116, 105, 110, 73, 109, 112, 111, 114, 116, 101, 114, 46, 101, 120, 101, 99, 95, 109, 111, 100, 117, 108, 101, 35, 111, 112, 97, 113, 117, 101, 6, 196, 8, 103, 101, 116, 95, 99, 111, 100, 101, 9, 49, 95, 102, 114, 111, 122, 101, 110, 95, 105, 109, 112, 111, 114, 116, 108, 105, 98, 46, 66, 117, 105, 108, 116, 105, 110, 73, 109, 112, 111, 114, 116, 101, 114, 46, 103, 101, 116, 95, 99, 111, 100, 101, 35, 111, 112, 97, 113, 117, 101, 6, 197, 10, 103, 101, 116, 95, 115, 111, 117, 114, 99, 101, 9, 51, 95, 102, 114, 111, 122, 101, 110, 95, 105, 109, 112, 111, 114, 116, 108, 105, 98, 46, 66, 117, 105, 108, 116, 105, 110, 73, 109, 112, 111, 114, 116, 101, 114, 46, 103, 101, 116, 95, 115, 111, 117, 114, 99, 101, 35, 111, 112, 97, 113, 117, 101, 6, 198, 10, 105, 115, 95, 112, 97, 99, 107, 97, 103, 101, 9, 51, 95, 102, 114, 111, 122, 101, 110, 95, 105, 109, 112, 111, 114, 116, 108, 105, 98, 46, 66, 117, 105, 108, 116, 105, 110, 73, 109, 112, 111, 114, 116, 101, 114, 46, 105, 115, 95, 112, 97, 99, 107, 97, 103, 101, 35, 111, 112, 97, 113, 117, 101, 6, 199, 11, 108, 111, 97, 100, 95, 109, 111, 100, 117, 108, 101, 9, 52, 95, 102, 114, 111, 122, 101, 110, 95, 105, 109, 112, 111, 114, 116, 108, 105, 98, 46, 66, 117, 105, 108, 116, 105, 110, 73, 109, 112, 111, 114, 116, 101, 114, 46, 108, 111, 97, 100, 95, 109, 111, 100, 117, 108, 101, 35, 111, 112, 97, 113, 117, 101, 6, 200, 21, 95, 95, 115, 116, 97, 116, 105, 99, 95, 97, 116, 116, 114, 105, 98, 117, 116, 101, 115, 95, 95, 4, 0, 0, 15, 6, 202, 8, 95, 95, 100, 105, 99, 116, 95, 95, 4, 0, 0, 16, 6, 204, 11, 95, 95, 119, 101, 97, 107, 114, 101, 102, 95, 95, 4, 0, 0, 17]) 0, .bool true, .bool true, .str (Str.ofString "") 205, .int 21 0, .str (Str.mk #[6, 227, 10, 95, 95, 109, 111, 100, 117, 108, 101, 95, 95, 6, 217, 17, 95, 102, 114, 111, 122, 101, 110, 95, 105, 109, 112, 111, 114, 116, 108, 105, 98, 6, 228, 15, 95, 95, 102, 105, 114, 115, 116, 108, 105, 110, 101, 110, 111, 95, 95, 4, 218, 0, 562, 6, 229, 7, 95, 95, 100, 111, 99, 95, 95, 9, 47, 95, 102, 114, 111, 122, 101, 110, 95, 105, 109, 112, 111, 114, 116, 108, 105, 98, 46, 77, 111, 100, 117, 108, 101, 83, 112, 101, 99, 46, 95, 95, 100, 111, 99, 95, 95, 58, 115, 116, 114, 35, 111, 112, 97, 113, 117, 101, 6, 230, 8, 95, 95, 105, 110, 105, 116, 95, 95, 9, 44, 95, 102, 114, 111, 122, 101, 110, 95, 105, 109, 112, 111, 114, 116, 108, 105, 98, 46, 77, 111, 100, 117, 108, 101, 83, 112, 101, 99, 46, 95, 95, 105, 110, 105, 116, 95, 95, 35, 111, 112, 97, 113, 117, 101, 6, 231, 8, 95, 95, 114, 101, 112, 114, 95, 95, 9, 44, 95, 102, 114, 111, 122, 101, 110, 95, 105, 109, 112, 111, 114, 116, 108, 105, 98, 46, 77, 111, 100, 117, 108, 101, 83, 112, 101, 99, 46, 95, 95, 114, 101, 112, 114, 95, 95, 35, 111, 112, 97, 113, 117, 101, 6, 232, 6, 95, 95, 101, 113, 95, 95, 9, 42, 95, 102, 114, 111, 122, 101, 110, 95, 105, 109, 112, 111, 114, 116, 108, 105, 98, 46, 77, 111, 100, 117, 108, 101, 83, 112, 101, 99, 46, 95, 95, 101, 113, 95, 95, 35, 111, 112, 97, 113, 117, 101, 6, 233, 6, 99, 97, 99, 104, 101, 100, 9, 42, 95, 102, 114, 111, 122, 101, 110, 95, 105, 109, 112, 111, 114, 116, 108, 105, 98, 46, 77, 111, 100, 117, 108, 101, 83, 112, 101, 99, 46, 99, 97, 99, 104, 101, 100, 35, 111, 112, 97, 113, 117, 101, 6, 234, 6, 112, 97, 114, 101, 110, 116, 9, 42, 95, 102, 114, 111, 122, 101, 110, 95, 105, 109, 112, 111, 114, 116, 108, 105, 98, 46, 77, 111, 100, 117, 108, 101, 83, 112, 101, 99, 46, 112, 97, 114, 101, 110, 116, 35, 111, 112, 97, 113, 117, 101, 6, 235, 12, 104, 97, 115, 95, 108, 111, 99, 97, 116, 105, 111, 110, 9, 48, 95, 102, 114, 111, 122, 101, 110, 95, 105, 109, 112, 111, 114, 116, 108, 105, 98, 46, 77, 111, 100, 117, 108, 101, 83, 112, 101, 99, 46, 104, 97, 115, 95, 108, 111, 99, 97, 116, 105, 111, 110, 35, 111, 112, 97, 113, 117, 101, 6, 236, 21, 95, 95, 115, 116, 97, 116, 105, 99, 95, 97, 116, 116, 114, 105, 98, 117, 116, 101, 115, 95, 95, 4, 0, 0, 23, 6, 238, 8, 95, 95, 100, 105, 99, 116, 95, 95, 4, 0, 0, 24, 6, 240, 11, 95, 95, 119, 101, 97, 107, 114, 101, 102, 95, 95, 4, 0, 0, 25, 6, 241, 8, 95, 95, 104, 97, 115, 104, 95, 95, 0]) 0, .bool true, .bool true, .str (Str.ofString "") 242] 1, #[]⟩
noncomputable def o19S0 (P : Params) : Obj := ⟨.type "list", none, .seq #[] 0, #[]⟩
noncomputable def o20S0 (P : Params) : Obj := ⟨.type "dict", none, .dict #[⟨PyData.keyHash P (Str.ofString "name"), .str (Str.ofString "name") 208, .str (Str.ofString "_sre") 207⟩, ⟨PyData.keyHash P (Str.ofString "loader"), .str (Str.ofString "loader") 209, .ref 14⟩, ⟨PyData.keyHash P (Str.ofString "origin"), .str (Str.ofString "origin") 210, .str (Str.ofString "built-in") 184⟩, ⟨PyData.keyHash P (Str.ofString "loader_state"), .str (Str.ofString "loader_state") 211, .none⟩, ⟨PyData.keyHash P (Str.ofString "submodule_search_locations"), .str (Str.ofString "submodule_search_locations") 212, .none⟩, ⟨PyData.keyHash P (Str.ofString "_uninitialized_submodules"), .str (Str.ofString "_uninitialized_submodules") 213, .ref 19⟩, ⟨PyData.keyHash P (Str.ofString "_set_fileattr"), .str (Str.ofString "_set_fileattr") 214, .bool false⟩, ⟨PyData.keyHash P (Str.ofString "_cached"), .str (Str.ofString "_cached") 215, .none⟩, ⟨PyData.keyHash P (Str.ofString "_initializing"), .str (Str.ofString "_initializing") 243, .bool false⟩] 9, #[]⟩
noncomputable def o21S0 (P : Params) : Obj := ⟨.type "dict", none, .dict #[⟨PyData.keyHash P (Str.ofString "__module__"), .str (Str.ofString "__module__") 227, .str (Str.ofString "_frozen_importlib") 217⟩, ⟨PyData.keyHash P (Str.ofString "__firstlineno__"), .str (Str.ofString "__firstlineno__") 228, .int 562 218⟩, ⟨PyData.keyHash P (Str.ofString "__doc__"), .str (Str.ofString "__doc__") 229, .builtin "_frozen_importlib.ModuleSpec.__doc__:str#opaque"⟩, ⟨PyData.keyHash P (Str.ofString "__init__"), .str (Str.ofString "__init__") 230, .builtin "_frozen_importlib.ModuleSpec.__init__#opaque"⟩, ⟨PyData.keyHash P (Str.ofString "__repr__"), .str (Str.ofString "__repr__") 231, .builtin "_frozen_importlib.ModuleSpec.__repr__#opaque"⟩, ⟨PyData.keyHash P (Str.ofString "__eq__"), .str (Str.ofString "__eq__") 232, .builtin "_frozen_importlib.ModuleSpec.__eq__#opaque"⟩, ⟨PyData.keyHash P (Str.ofString "cached"), .str (Str.ofString "cached") 233, .builtin "_frozen_importlib.ModuleSpec.cached#opaque"⟩, ⟨PyData.keyHash P (Str.ofString "parent"), .str (Str.ofString "parent") 234, .builtin "_frozen_importlib.ModuleSpec.parent#opaque"⟩, ⟨PyData.keyHash P (Str.ofString "has_location"), .str (Str.ofString "has_location") 235, .builtin "_frozen_importlib.ModuleSpec.has_location#opaque"⟩, ⟨PyData.keyHash P (Str.ofString "__static_attributes__"), .str (Str.ofString "__static_attributes__") 236, .ref 23⟩, ⟨PyData.keyHash P (Str.ofString "__dict__"), .str (Str.ofString "__dict__") 238, .ref 24⟩, ⟨PyData.keyHash P (Str.ofString "__weakref__"), .str (Str.ofString "__weakref__") 240, .ref 25⟩, ⟨PyData.keyHash P (Str.ofString "__hash__"), .str (Str.ofString "__hash__") 241, .none⟩] 13, #[]⟩
noncomputable def o22S0 (P : Params) : Obj := ⟨.type "type", none, .cls ⟨(Str.ofString "ModuleSpec"), [.type "object"], [.ref 22, .type "object"], 21, (Str.ofString "ModuleSpec"), true, [], [], false, none, false⟩, #[]⟩
noncomputable def o23S0 (P : Params) : Obj := ⟨.type "tuple", none, .seq #[.str (Str.ofString "_cached") 219, .str (Str.ofString "_set_fileattr") 220, .str (Str.ofString "_uninitialized_submodules") 221, .str (Str.ofString "loader") 222, .str (Str.ofString "loader_state") 223, .str (Str.ofString "name") 224, .str (Str.ofString "origin") 225, .str (Str.ofString "submodule_search_locations") 226] 0, #[]⟩
noncomputable def o24S0 (P : Params) : Obj := ⟨.type "getset_descriptor", none, .fields #[.str (Str.ofString "__dict__") 237, .ref 22, .builtin "function.__dict__", .builtin "function.__dict__#set"], #[]⟩
noncomputable def o25S0 (P : Params) : Obj := ⟨.type "getset_descriptor", none, .fields #[.str (Str.ofString "__weakref__") 239, .ref 22, .builtin "ExceptionGroup.__weakref__", .none], #[]⟩
noncomputable def o26S0 (P : Params) : Obj := ⟨.ref 22, (some 20), .plain, #[]⟩
noncomputable def o27S0 (P : Params) : Obj := ⟨.none, none, .seq #[.int 11 0, .str (Str.mk #[6, 247, 8, 95, 95, 110, 97, 109, 101, 95, 95, 6, 246, 4, 95, 115, 114, 101, 6, 248, 7, 95, 95, 100, 111, 99, 95, 95, 0, 6, 250, 11, 95, 95, 112, 97, 99, 107, 97, 103, 101, 95, 95, 6, 249, 0, 6, 251, 10, 95, 95, 108, 111, 97, 100, 101, 114, 95, 95, 4, 0, 0, 14, 6, 252, 8, 95, 95, 115, 112, 101, 99, 95, 95, 4, 0, 0, 26, 6, 253, 7, 99, 111, 109, 112, 105, 108, 101, 9, 12, 95, 115, 114, 101, 46, 99, 111, 109, 112, 105, 108, 101, 6, 254, 8, 116, 101, 109, 112, 108, 97, 116, 101, 9, 13, 95, 115, 114, 101, 46, 116, 101, 109, 112, 108, 97, 116, 101, 6, 255, 11, 103, 101, 116, 99, 111, 100, 101, 115, 105, 122, 101, 9, 16, 95, 115, 114, 101, 46, 103, 101, 116, 99, 111, 100, 101, 115, 105, 122, 101, 6, 256, 13, 97, 115, 99, 105, 105, 95, 105, 115, 99, 97, 115, 101, 100, 9, 18, 95, 115, 114, 101, 46, 97, 115, 99, 105, 105, 95, 105, 115, 99, 97, 115, 101, 100, 6, 257, 15, 117, 110, 105, 99, 111, 100, 101, 95, 105, 115, 99, 97, 115, 101, 100, 9, 20, 95, 115, 114, 101, 46, 117, 110, 105, 99, 111, 100, 101, 95, 105, 115, 99, 97, 115, 101, 100, 6, 258, 13, 97, 115, 99, 105, 105, 95, 116, 111, 108, 111, 119, 101, 114, 9, 18, 95, 115, 114, 101, 46, 97, 115, 99, 105, 105, 95, 116, 111, 108, 111, 119, 101, 114, 6, 259, 15, 117, 110, 105, 99, 111, 100, 101, 95, 116, 111, 108, 111, 119, 101, 114, 9, 20, 95, 115, 114, 101, 46, 117, 110, 105, 99, 111, 100, 101, 95, 116, 111, 108, 111, 119, 101, 114, 6, 261, 5, 77, 65, 71, 73, 67, 4, 260, 0, 20230612, 6, 263, 8, 67, 79, 68, 69, 83, 73, 90, 69, 4, 262, 0, 4, 6, 265, 9, 77, 65, 88, 82, 69, 80, 69, 65, 84, 4, 264, 0, 4294967295, 6, 267, 9, 77, 65, 88, 71, 82, 79, 85, 80, 83, 4, 266, 0, 1073741823, 6, 269, 9, 99, 111, 112, 121, 114, 105, 103, 104, 116, 6, 268, 53, 32, 83, 82, 69, 32, 50, 46, 50, 46, 50, 32, 67, 111, 112, 121, 114, 105, 103, 104, 116, 32, 40, 99, 41, 32, 49, 57, 57, 55, 45, 50, 48, 48, 50, 32, 98, 121, 32, 83, 101, 99, 114, 101, 116, 32, 76, 97, 98, 115, 32, 65, 66, 32]) 0, .bool true, .bool false, .str (Str.ofString "_sre") 271] 0, #[]⟩
noncomputable def tS0 (P : Params) : BT := (.node (o0S0 P) (.node (o1S0 P) (.node (o3S0 P) (.node (o7S0 P) (.node (o15S0 P) .nil .nil) (.node (o23S0 P) .nil .nil)) (.node (o11S0 P) (.node (o19S0 P) .nil .nil) (.node (o27S0 P) .nil .nil))) (.node (o5S0 P) (.node (o9S0 P) (.node (o17S0 P) .nil .nil) (.node (o25S0 P) .nil .nil)) (.node (o13S0 P) (.node (o21S0 P) .nil .nil) .nil))) (.node (o2S0 P) (.node (o4S0 P) (.node (o8S0 P) (.node (o16S0 P) .nil .nil) (.node (o24S0 P) .nil .nil)) (.node (o12S0 P) (.node (o20S0 P) .nil .nil) .nil)) (.node (o6S0 P) (.node (o10S0 P) (.node (o18S0 P) .nil .nil) (.node (o26S0 P) .nil .nil)) (.node (o14S0 P) (.node (o22S0 P) .nil .nil) .nil))))
noncomputable def o28Sa (P : Params) : Obj := ⟨.type "tuple", none, .seq #[] 0, #[]⟩
noncomputable def o29Sa (P : Params) : Obj := ⟨.none, none, .fields #[], #[]⟩
noncomputable def o30Sa (P : Params) : Obj := ⟨.type "code", none, .fields #[.str (Str.ofString "<module>") 277, .str (Str.ofString "<module>") 278, .str (Str.ofString "/claim/cut.py") 279, .int 1 0, .int 0 0, .int 0 0, .int 0 0, .int 0 0, .ref 28, .bool false, .int 276 0, .ref 29, .none, .none, .none, .none, .int 280 0, .int 1 0, .str (Str.ofString "/claim/cut.py") 281], #[]⟩
noncomputable def o31Sa (P : Params) : Obj := ⟨.type "frame", none, .plain, #[some (.ref 30), some (.ref 3), some (.ref 3), none, some (.str (Str.ofString "__main__") 164), none, some (.ref 0)]⟩
noncomputable def tSa (P : Params) : BT := (.node (o0S0 P) (.node (o1S0 P) (.node (o3S0 P) (.node (o7S0 P) (.node (o15S0 P) (.node (o31Sa P) .nil .nil) .nil) (.node (o23S0 P) .nil .nil)) (.node (o11S0 P) (.node (o19S0 P) .nil .nil) (.node (o27S0 P) .nil .nil))) (.node (o5S0 P) (.node (o9S0 P) (.node (o17S0 P) .nil .nil) (.node (o25S0 P) .nil .nil)) (.node (o13S0 P) (.node (o21S0 P) .nil .nil) (.node (o29Sa P) .nil .nil)))) (.node (o2S0 P) (.node (o4S0 P) (.node (o8S0 P) (.node (o16S0 P) .nil .nil) (.node (o24S0 P) .nil .nil)) (.node (o12S0 P) (.node (o20S0 P) .nil .nil) (.node (o28Sa P) .nil .nil))) (.node (o6S0 P) (.node (o10S0 P) (.node (o18S0 P) .nil .nil) (.node (o26S0 P) .nil .nil)) (.node (o14S0 P) (.node (o22S0 P) .nil .nil) (.node (o30Sa P) .nil .nil)))))
noncomputable def o3S6 (P : Params) : Obj := ⟨.type "dict", none, .dict #[⟨PyData.keyHash P (Str.ofString "__name__"), .str (Str.ofString "__name__") 165, .str (Str.ofString "cpy313.stringprep") 351⟩, ⟨PyData.keyHash P (Str.ofString "__doc__"), .str (Str.ofString "__doc__") 166, .none⟩, ⟨PyData.keyHash P (Str.ofString "__package__"), .str (Str.ofString "__package__") 167, .none⟩, ⟨PyData.keyHash P (Str.ofString "__loader__"), .str (Str.ofString "__loader__") 168, .builtin "__main__.__loader__#opaque"⟩, ⟨PyData.keyHash P (Str.ofString "__spec__"), .str (Str.ofString "__spec__") 169, .none⟩, ⟨PyData.keyHash P (Str.ofString "__annotations__"), .str (Str.ofString "__annotations__") 170, .ref 6⟩, ⟨PyData.keyHash P (Str.ofString "__builtins__"), .str (Str.ofString "__builtins__") 171, .ref 4⟩, ⟨PyData.keyHash P (Str.ofString "__file__"), .str (Str.ofString "__file__") 173, .str (Str.ofString "/claim/cut.py") 172⟩, ⟨PyData.keyHash P (Str.ofString "__cached__"), .str (Str.ofString "__cached__") 174, .none⟩, ⟨PyData.keyHash P (Str.ofString "_sre"), .str (Str.ofString "_sre") 275, .ref 12⟩, ⟨PyData.keyHash P (Str.ofString "_twin_re_1"), .str (Str.ofString "_twin_re_1") 299, .ref 36⟩, ⟨PyData.keyHash P (Str.ofString "_twin_re_2"), .str (Str.ofString "_twin_re_2") 341, .ref 41⟩, ⟨PyData.keyHash P (Str.ofString "CRLF"), .str (Str.ofString "CRLF") 343, .str (Str.mk #[13, 10]) 342⟩, ⟨PyData.keyHash P (Str.ofString "quotedata"), .str (Str.ofString "quotedata") 350, .ref 48⟩] 14, #[]⟩
noncomputable def o29S6 (P : Params) : Obj := ⟨.none, none, .fields #[.int 6 0, .int 0 0, .ref 47], #[]⟩
noncomputable def o32S6 (P : Params) : Obj := ⟨.type "list", none, .seq #[.int 14 287, .int 4 288, .int 0 289, .int 1 290, .int 1 291, .int 6 292, .int 1 293, .int 16 294, .int 46 295, .int 1 296] 0, #[]⟩
noncomputable def o33S6 (P : Params) : Obj := ⟨.type "dict", none, .dict #[] 0, #[]⟩
noncomputable def o34S6 (P : Params) : Obj := ⟨.type "tuple", none, .seq #[.none] 0, #[]⟩
noncomputable def o35S6 (P : Params) : Obj := ⟨.type "tuple", none, .seq #[.int 14 0, .int 4 0, .int 0 0, .int 1 0, .int 1 0, .int 6 0, .int 1 0, .int 16 0, .int 46 0, .int 1 0] 0, #[]⟩
noncomputable def o36S6 (P : Params) : Obj := ⟨.type "re.Pattern", none, .fields #[.str (Str.mk #[40, 63, 109, 41, 94, 92, 46]) 285, .int 40 298, .int 0 0, .none, .none, .ref 35, .int 0 0], #[]⟩
noncomputable def o37S6 (P : Params) : Obj := ⟨.type "list", none, .seq #[.int 14 303, .int 9 304, .int 4 305, .int 1 306, .int 2 307, .int 16 308, .int 10 309, .int 16 310, .int 13 311, .int 0 312, .int 7 313, .int 7 314, .int 16 315, .int 13 316, .int 16 317, .int 10 318, .int 15 319, .int 18 320, .int 5 321, .int 16 322, .int 10 323, .int 15 324, .int 13 325, .int 11 326, .int 16 327, .int 13 328, .int 5 329, .int 5 330, .int 0 331, .int 16 332, .int 10 333, .int 1 334, .int 15 335, .int 2 336, .int 0 337, .int 1 338] 0, #[]⟩
noncomputable def o38S6 (P : Params) : Obj := ⟨.type "dict", none, .dict #[] 0, #[]⟩
noncomputable def o39S6 (P : Params) : Obj := ⟨.type "tuple", none, .seq #[.none] 0, #[]⟩
noncomputable def o40S6 (P : Params) : Obj := ⟨.type "tuple", none, .seq #[.int 14 0, .int 9 0, .int 4 0, .int 1 0, .int 2 0, .int 16 0, .int 10 0, .int 16 0, .int 13 0, .int 0 0, .int 7 0, .int 7 0, .int 16 0, .int 13 0, .int 16 0, .int 10 0, .int 15 0, .int 18 0, .int 5 0, .int 16 0, .int 10 0, .int 15 0, .int 13 0, .int 11 0, .int 16 0, .int 13 0, .int 5 0, .int 5 0, .int 0 0, .int 16 0, .int 10 0, .int 1 0, .int 15 0, .int 2 0, .int 0 0, .int 1 0] 0, #[]⟩
noncomputable def o41S6 (P : Params) : Obj := ⟨.type "re.Pattern", none, .fields #[.str (Str.mk #[40, 63, 58, 92, 114, 92, 110, 124, 92, 110, 124, 92, 114, 40, 63, 33, 92, 110, 41, 41]) 301, .int 32 340, .int 0 0, .none, .none, .ref 40, .int 0 0], #[]⟩
noncomputable def o42S6 (P : Params) : Obj := ⟨.type "tuple", none, .seq #[] 0, #[]⟩
noncomputable def o43S6 (P : Params) : Obj := ⟨.none, none, .fields #[], #[]⟩
noncomputable def o44S6 (P : Params) : Obj := ⟨.type "tuple", none, .seq #[.str (Str.ofString "data") 347] 0, #[]⟩
noncomputable def o45S6 (P : Params) : Obj := ⟨.type "tuple", none, .seq #[] 0, #[]⟩
noncomputable def o46S6 (P : Params) : Obj := ⟨.none, none, .func (fnAt 5 0 (.none) (.none) 0), #[]⟩
noncomputable def o47S6 (P : Params) : Obj := ⟨.type "code", none, .fields #[.str (Str.ofString "quotedata") 344, .str (Str.ofString "quotedata") 345, .str (Str.ofString "/claim/cut.py") 346, .int 6 0, .int 1 0, .int 0 0, .int 0 0, .int 3 0, .ref 42, .bool true, .int 276 0, .ref 43, .none, .ref 44, .ref 45, .ref 46, .int 348 0, .int 6 0, .str (Str.ofString "/claim/cut.py") 349], #[]⟩
noncomputable def o48S6 (P : Params) : Obj := ⟨.type "function", none, .func (fnAt 5 3 (.str (Str.ofString "cpy313.smtplib") 282) (.ref 47) 0), #[]⟩
noncomputable def tS6 (P : Params) : BT := (.node (o0S0 P) (.node (o1S0 P) (.node (o3S6 P) (.node (o7S0 P) (.node (o15S0 P) (.node (o31Sa P) .nil .nil) (.node (o47S6 P) .nil .nil)) (.node (o23S0 P) (.node (o39S6 P) .nil .nil) .nil)) (.node (o11S0 P) (.node (o19S0 P) (.node (o35S6 P) .nil .nil) .nil) (.node (o27S0 P) (.node (o43S6 P) .nil .nil) .nil))) (.node (o5S0 P) (.node (o9S0 P) (.node (o17S0 P) (.node (o33S6 P) .nil .nil) .nil) (.node (o25S0 P) (.node (o41S6 P) .nil .nil) .nil)) (.node (o13S0 P) (.node (o21S0 P) (.node (o37S6 P) .nil .nil) .nil) (.node (o29S6 P) (.node (o45S6 P) .nil .nil) .nil)))) (.node (o2S0 P) (.node (o4S0 P) (.node (o8S0 P) (.node (o16S0 P) (.node (o32S6 P) .nil .nil) (.node (o48S6 P) .nil .nil)) (.node (o24S0 P) (.node (o40S6 P) .nil .nil) .nil)) (.node (o12S0 P) (.node (o20S0 P) (.node (o36S6 P) .nil .nil) .nil) (.node (o28Sa P) (.node (o44S6 P) .nil .nil) .nil))) (.node (o6S0 P) (.node (o10S0 P) (.node (o18S0 P) (.node (o34S6 P) .nil .nil) .nil) (.node (o26S0 P) (.node (o42S6 P) .nil .nil) .nil)) (.node (o14S0 P) (.node (o22S0 P) (.node (o38S6 P) .nil .nil) .nil) (.node (o30Sa P) (.node (o46S6 P) .nil .nil) .nil)))))
noncomputable def o3S7 (P : Params) : Obj := ⟨.type "dict", none, .dict #[⟨PyData.keyHash P (Str.ofString "__name__"), .str (Str.ofString "__name__") 165, .str (Str.ofString "cpy313.stringprep") 351⟩, ⟨PyData.keyHash P (Str.ofString "__doc__"), .str (Str.ofString "__doc__") 166, .none⟩, ⟨PyData.keyHash P (Str.ofString "__package__"), .str (Str.ofString "__package__") 167, .none⟩, ⟨PyData.keyHash P (Str.ofString "__loader__"), .str (Str.ofString "__loader__") 168, .builtin "__main__.__loader__#opaque"⟩, ⟨PyData.keyHash P (Str.ofString "__spec__"), .str (Str.ofString "__spec__") 169, .none⟩, ⟨PyData.keyHash P (Str.ofString "__annotations__"), .str (Str.ofString "__annotations__") 170, .ref 6⟩, ⟨PyData.keyHash P (Str.ofString "__builtins__"), .str (Str.ofString "__builtins__") 171, .ref 4⟩, ⟨PyData.keyHash P (Str.ofString "__file__"), .str (Str.ofString "__file__") 173, .str (Str.ofString "/claim/cut.py") 172⟩, ⟨PyData.keyHash P (Str.ofString "__cached__"), .str (Str.ofString "__cached__") 174, .none⟩, ⟨PyData.keyHash P (Str.ofString "_sre"), .str (Str.ofString "_sre") 275, .ref 12⟩, ⟨PyData.keyHash P (Str.ofString "_twin_re_1"), .str (Str.ofString "_twin_re_1") 299, .ref 36⟩, ⟨PyData.keyHash P (Str.ofString "_twin_re_2"), .str (Str.ofString "_twin_re_2") 341, .ref 41⟩, ⟨PyData.keyHash P (Str.ofString "CRLF"), .str (Str.ofString "CRLF") 343, .str (Str.mk #[13, 10]) 342⟩, ⟨PyData.keyHash P (Str.ofString "quotedata"), .str (Str.ofString "quotedata") 350, .ref 48⟩, ⟨PyData.keyHash P (Str.ofString "b1_set"), .str (Str.ofString "b1_set") 412, .ref 56⟩] 15, #[]⟩
noncomputable def o49S7 (P : Params) : Obj := ⟨.type "list", none, .seq #[.int 173 353, .int 847 354, .int 6150 355, .int 6155 356, .int 6156 357, .int 6157 358, .int 8203 359, .int 8204 360, .int 8205 361, .int 8288 362, .int 65279 363] 0, #[]⟩
noncomputable def o50S7 (P : Params) : Obj := ⟨.type "range", none, .fields #[.int 65024 364, .int 65040 365, .int 1 366], #[]⟩
noncomputable def o51S7 (P : Params) : Obj := ⟨.type "list", none, .seq #[.int 65024 369, .int 65025 370, .int 65026 371, .int 65027 372, .int 65028 373, .int 65029 374, .int 65030 375, .int 65031 376, .int 65032 377, .int 65033 378, .int 65034 379, .int 65035 380, .int 65036 381, .int 65037 382, .int 65038 383, .int 65039 384] 18, #[]⟩
noncomputable def o52S7 (P : Params) : Obj := ⟨.type "range_iterator", none, .fields #[.int 65040 0, .int 0 0, .int 1 0], #[]⟩
noncomputable def o53S7 (P : Params) : Obj := ⟨.type "tuple", none, .seq #[] 0, #[]⟩
noncomputable def o54S7 (P : Params) : Obj := ⟨.type "StopIteration", none, .fields #[.ref 53, .none, .none, .none, .bool false, .none], #[]⟩
noncomputable def o55S7 (P : Params) : Obj := ⟨.type "list", none, .seq #[.int 173 353, .int 847 354, .int 6150 355, .int 6155 356, .int 6156 357, .int 6157 358, .int 8203 359, .int 8204 360, .int 8205 361, .int 8288 362, .int 65279 363, .int 65024 369, .int 65025 370, .int 65026 371, .int 65027 372, .int 65028 373, .int 65029 374, .int 65030 375, .int 65031 376, .int 65032 377, .int 65033 378, .int 65034 379, .int 65035 380, .int 65036 381, .int 65037 382, .int 65038 383, .int 65039 384] 0, #[]⟩
noncomputable def o56S7 (P : Params) : Obj := ⟨.type "set", none, .set #[(65024, .int 65024 369), (65025, .int 65025 370), (65026, .int 65026 371), (65027, .int 65027 372), (65028, .int 65028 373), (65029, .int 65029 374), (6150, .int 6150 355), (65030, .int 65030 375), (65031, .int 65031 376), (65032, .int 65032 377), (65033, .int 65033 378), (6155, .int 6155 356), (6156, .int 6156 357), (6157, .int 6157 358), (8203, .int 8203 359), (8204, .int 8204 360), (8205, .int 8205 361), (65034, .int 65034 379), (65035, .int 65035 380), (65036, .int 65036 381), (65037, .int 65037 382), (65038, .int 65038 383), (65039, .int 65039 384), (173, .int 173 353), (847, .int 847 354), (8288, .int 8288 362), (65279, .int 65279 363)] 29 ⟨127, #[0, 1, 2, 3, 4, 5, 6, 7, 8, 9, 10, 11, 12, 13, 14, 15, 16, 17, 18, 19, 20, 21, 22, 45, 79, 96, 127], #[], 0, !P.followText "set-order", 2, true⟩, #[]⟩
noncomputable def o57S7 (P : Params) : Obj := ⟨.type "list_iterator", none, .fields #[.none, .int 27 0], #[]⟩
noncomputable def o58S7 (P : Params) : Obj := ⟨.type "tuple", none, .seq #[] 0, #[]⟩
noncomputable def o59S7 (P : Params) : Obj := ⟨.type "StopIteration", none, .fields #[.ref 58, .none, .none, .none, .bool false, .none], #[]⟩
noncomputable def tS7 (P : Params) : BT := (.node (o0S0 P) (.node (o1S0 P) (.node (o3S7 P) (.node (o7S0 P) (.node (o15S0 P) (.node (o31Sa P) .nil .nil) (.node (o47S6 P) .nil .nil)) (.node (o23S0 P) (.node (o39S6 P) .nil .nil) (.node (o55S7 P) .nil .nil))) (.node (o11S0 P) (.node (o19S0 P) (.node (o35S6 P) .nil .nil) (.node (o51S7 P) .nil .nil)) (.node (o27S0 P) (.node (o43S6 P) .nil .nil) (.node (o59S7 P) .nil .nil)))) (.node (o5S0 P) (.node (o9S0 P) (.node (o17S0 P) (.node (o33S6 P) .nil .nil) (.node (o49S7 P) .nil .nil)) (.node (o25S0 P) (.node (o41S6 P) .nil .nil) (.node (o57S7 P) .nil .nil))) (.node (o13S0 P) (.node (o21S0 P) (.node (o37S6 P) .nil .nil) (.node (o53S7 P) .nil .nil)) (.node (o29S6 P) (.node (o45S6 P) .nil .nil) .nil)))) (.node (o2S0 P) (.node (o4S0 P) (.node (o8S0 P) (.node (o16S0 P) (.node (o32S6 P) .nil .nil) (.node (o48S6 P) .nil .nil)) (.node (o24S0 P) (.node (o40S6 P) .nil .nil) (.node (o56S7 P) .nil .nil))) (.node (o12S0 P) (.node (o20S0 P) (.node (o36S6 P) .nil .nil) (.node (o52S7 P) .nil .nil)) (.node (o28Sa P) (.node (o44S6 P) .nil .nil) .nil))) (.node (o6S0 P) (.node (o10S0 P) (.node (o18S0 P) (.node (o34S6 P) .nil .nil) (.node (o50S7 P) .nil .nil)) (.node (o26S0 P) (.node (o42S6 P) .nil .nil) (.node (o58S7 P) .nil .nil))) (.node (o14S0 P) (.node (o22S0 P) (.node (o38S6 P) .nil .nil) (.node (o54S7 P) .nil .nil)) (.node (o30Sa P) (.node (o46S6 P) .nil .nil) .nil)))))
noncomputable def o3S8 (P : Params) : Obj := ⟨.type "dict", none, .dict #[⟨PyData.keyHash P (Str.ofString "__name__"), .str (Str.ofString "__name__") 165, .str (Str.ofString "cpy313.stringprep") 351⟩, ⟨PyData.keyHash P (Str.ofString "__doc__"), .str (Str.ofString "__doc__") 166, .none⟩, ⟨PyData.keyHash P (Str.ofString "__package__"), .str (Str.ofString "__package__") 167, .none⟩, ⟨PyData.keyHash P (Str.ofString "__loader__"), .str (Str.ofString "__loader__") 168, .builtin "__main__.__loader__#opaque"⟩, ⟨PyData.keyHash P (Str.ofString "__spec__"), .str (Str.ofString "__spec__") 169, .none⟩, ⟨PyData.keyHash P (Str.ofString "__annotations__"), .str (Str.ofString "__annotations__") 170, .ref 6⟩, ⟨PyData.keyHash P (Str.ofString "__builtins__"), .str (Str.ofString "__builtins__") 171, .ref 4⟩, ⟨PyData.keyHash P (Str.ofString "__file__"), .str (Str.ofString "__file__") 173, .str (Str.ofString "/claim/cut.py") 172⟩, ⟨PyData.keyHash P (Str.ofString "__cached__"), .str (Str.ofString "__cached__") 174, .none⟩, ⟨PyData.keyHash P (Str.ofString "_sre"), .str (Str.ofString "_sre") 275, .ref 12⟩, ⟨PyData.keyHash P (Str.ofString "_twin_re_1"), .str (Str.ofString "_twin_re_1") 299, .ref 36⟩, ⟨PyData.keyHash P (Str.ofString "_twin_re_2"), .str (Str.ofString "_twin_re_2") 341, .ref 41⟩, ⟨PyData.keyHash P (Str.ofString "CRLF"), .str (Str.ofString "CRLF") 343, .str (Str.mk #[13, 10]) 342⟩, ⟨PyData.keyHash P (Str.ofString "quotedata"), .str (Str.ofString "quotedata") 350, .ref 48⟩, ⟨PyData.keyHash P (Str.ofString "b1_set"), .str (Str.ofString "b1_set") 412, .ref 56⟩, ⟨PyData.keyHash P (Str.ofString "in_table_b1"), .str (Str.ofString "in_table_b1") 419, .ref 66⟩] 16, #[]⟩
noncomputable def o29S8 (P : Params) : Obj := ⟨.none, none, .fields #[.int 6 0, .int 0 0, .ref 47, .int 10 0, .int 0 0, .ref 65], #[]⟩
noncomputable def o60S8 (P : Params) : Obj := ⟨.type "tuple", none, .seq #[] 0, #[]⟩
noncomputable def o61S8 (P : Params) : Obj := ⟨.none, none, .fields #[], #[]⟩
noncomputable def o62S8 (P : Params) : Obj := ⟨.type "tuple", none, .seq #[.str (Str.ofString "code") 416] 0, #[]⟩
noncomputable def o63S8 (P : Params) : Obj := ⟨.type "tuple", none, .seq #[] 0, #[]⟩
noncomputable def o64S8 (P : Params) : Obj := ⟨.none, none, .func (fnAt 8 0 (.none) (.none) 0), #[]⟩
noncomputable def o65S8 (P : Params) : Obj := ⟨.type "code", none, .fields #[.str (Str.ofString "in_table_b1") 413, .str (Str.ofString "in_table_b1") 414, .str (Str.ofString "/claim/cut.py") 415, .int 10 0, .int 1 0, .int 0 0, .int 0 0, .int 3 0, .ref 60, .bool true, .int 276 0, .ref 61, .none, .ref 62, .ref 63, .ref 64, .int 417 0, .int 10 0, .str (Str.ofString "/claim/cut.py") 418], #[]⟩
noncomputable def o66S8 (P : Params) : Obj := ⟨.type "function", none, .func (fnAt 8 3 (.str (Str.ofString "cpy313.stringprep") 351) (.ref 65) 0), #[]⟩
noncomputable def tS8 (P : Params) : BT := (.node (o0S0 P) (.node (o1S0 P) (.node (o3S8 P) (.node (o7S0 P) (.node (o15S0 P) (.node (o31Sa P) (.node (o63S8 P) .nil .nil) .nil) (.node (o47S6 P) .nil .nil)) (.node (o23S0 P) (.node (o39S6 P) .nil .nil) (.node (o55S7 P) .nil .nil))) (.node (o11S0 P) (.node (o19S0 P) (.node (o35S6 P) .nil .nil) (.node (o51S7 P) .nil .nil)) (.node (o27S0 P) (.node (o43S6 P) .nil .nil) (.node (o59S7 P) .nil .nil)))) (.node (o5S0 P) (.node (o9S0 P) (.node (o17S0 P) (.node (o33S6 P) (.node (o65S8 P) .nil .nil) .nil) (.node (o49S7 P) .nil .nil)) (.node (o25S0 P) (.node (o41S6 P) .nil .nil) (.node (o57S7 P) .nil .nil))) (.node (o13S0 P) (.node (o21S0 P) (.node (o37S6 P) .nil .nil) (.node (o53S7 P) .nil .nil)) (.node (o29S8 P) (.node (o45S6 P) .nil .nil) (.node (o61S8 P) .nil .nil))))) (.node (o2S0 P) (.node (o4S0 P) (.node (o8S0 P) (.node (o16S0 P) (.node (o32S6 P) (.node (o64S8 P) .nil .nil) .nil) (.node (o48S6 P) .nil .nil)) (.node (o24S0 P) (.node (o40S6 P) .nil .nil) (.node (o56S7 P) .nil .nil))) (.node (o12S0 P) (.node (o20S0 P) (.node (o36S6 P) .nil .nil) (.node (o52S7 P) .nil .nil)) (.node (o28Sa P) (.node (o44S6 P) .nil .nil) (.node (o60S8 P) .nil .nil)))) (.node (o6S0 P) (.node (o10S0 P) (.node (o18S0 P) (.node (o34S6 P) (.node (o66S8 P) .nil .nil) .nil) (.node (o50S7 P) .nil .nil)) (.node (o26S0 P) (.node (o42S6 P) .nil .nil) (.node (o58S7 P) .nil .nil))) (.node (o14S0 P) (.node (o22S0 P) (.node (o38S6 P) .nil .nil) (.node (o54S7 P) .nil .nil)) (.node (o30Sa P) (.node (o46S6 P) .nil .nil) (.node (o62S8 P) .nil .nil))))))
noncomputable def o3S9 (P : Params) : Obj := ⟨.type "dict", none, .dict #[⟨PyData.keyHash P (Str.ofString "__name__"), .str (Str.ofString "__name__") 165, .str (Str.ofString "cpy313.stringprep") 351⟩, ⟨PyData.keyHash P (Str.ofString "__doc__"), .str (Str.ofString "__doc__") 166, .none⟩, ⟨PyData.keyHash P (Str.ofString "__package__"), .str (Str.ofString "__package__") 167, .none⟩, ⟨PyData.keyHash P (Str.ofString "__loader__"), .str (Str.ofString "__loader__") 168, .builtin "__main__.__loader__#opaque"⟩, ⟨PyData.keyHash P (Str.ofString "__spec__"), .str (Str.ofString "__spec__") 169, .none⟩, ⟨PyData.keyHash P (Str.ofString "__annotations__"), .str (Str.ofString "__annotations__") 170, .ref 6⟩, ⟨PyData.keyHash P (Str.ofString "__builtins__"), .str (Str.ofString "__builtins__") 171, .ref 4⟩, ⟨PyData.keyHash P (Str.ofString "__file__"), .str (Str.ofString "__file__") 173, .str (Str.ofString "/claim/cut.py") 172⟩, ⟨PyData.keyHash P (Str.ofString "__cached__"), .str (Str.ofString "__cached__") 174, .none⟩, ⟨PyData.keyHash P (Str.ofString "_sre"), .str (Str.ofString "_sre") 275, .ref 12⟩, ⟨PyData.keyHash P (Str.ofString "_twin_re_1"), .str (Str.ofString "_twin_re_1") 299, .ref 36⟩, ⟨PyData.keyHash P (Str.ofString "_twin_re_2"), .str (Str.ofString "_twin_re_2") 341, .ref 41⟩, ⟨PyData.keyHash P (Str.ofString "CRLF"), .str (Str.ofString "CRLF") 343, .str (Str.mk #[13, 10]) 342⟩, ⟨PyData.keyHash P (Str.ofString "quotedata"), .str (Str.ofString "quotedata") 350, .ref 48⟩, ⟨PyData.keyHash P (Str.ofString "b1_set"), .str (Str.ofString "b1_set") 412, .ref 56⟩, ⟨PyData.keyHash P (Str.ofString "in_table_b1"), .str (Str.ofString "in_table_b1") 419, .ref 66⟩, ⟨PyData.keyHash P (Str.ofString "b3_exceptions"), .str (Str.ofString "b3_exceptions") 2370, .ref 67⟩] 17, #[]⟩
noncomputable def tS9 (P : Params) : BT := (.node (o0S0 P) (.node (o1S0 P) (.node (o3S9 P) (.node (o7S0 P) (.node (o15S0 P) (.node (o31Sa P) (.node (o63S8 P) .nil .nil) (.node ((fun _ => b3Chunk 28) P) .nil .nil)) (.node (o47S6 P) (.node ((fun _ => b3Chunk 12) P) .nil .nil) .nil)) (.node (o23S0 P) (.node (o39S6 P) (.node ((fun _ => b3Chunk 4) P) .nil .nil) (.node ((fun _ => b3Chunk 36) P) .nil .nil)) (.node (o55S7 P) (.node ((fun _ => b3Chunk 20) P) .nil .nil) .nil))) (.node (o11S0 P) (.node (o19S0 P) (.node (o35S6 P) (.node ((fun _ => b3Obj) P) .nil .nil) (.node ((fun _ => b3Chunk 32) P) .nil .nil)) (.node (o51S7 P) (.node ((fun _ => b3Chunk 16) P) .nil .nil) .nil)) (.node (o27S0 P) (.node (o43S6 P) (.node ((fun _ => b3Chunk 8) P) .nil .nil) .nil) (.node (o59S7 P) (.node ((fun _ => b3Chunk 24) P) .nil .nil) .nil)))) (.node (o5S0 P) (.node (o9S0 P) (.node (o17S0 P) (.node (o33S6 P) (.node (o65S8 P) .nil .nil) (.node ((fun _ => b3Chunk 30) P) .nil .nil)) (.node (o49S7 P) (.node ((fun _ => b3Chunk 14) P) .nil .nil) .nil)) (.node (o25S0 P) (.node (o41S6 P) (.node ((fun _ => b3Chunk 6) P) .nil .nil) (.node ((fun _ => b3Chunk 38) P) .nil .nil)) (.node (o57S7 P) (.node ((fun _ => b3Chunk 22) P) .nil .nil) .nil))) (.node (o13S0 P) (.node (o21S0 P) (.node (o37S6 P) (.node ((fun _ => b3Chunk 2) P) .nil .nil) (.node ((fun _ => b3Chunk 34) P) .nil .nil)) (.node (o53S7 P) (.node ((fun _ => b3Chunk 18) P) .nil .nil) .nil)) (.node (o29S8 P) (.node (o45S6 P) (.node ((fun _ => b3Chunk 10) P) .nil .nil) .nil) (.node (o61S8 P) (.node ((fun _ => b3Chunk 26) P) .nil .nil) .nil))))) (.node (o2S0 P) (.node (o4S0 P) (.node (o8S0 P) (.node (o16S0 P) (.node (o32S6 P) (.node (o64S8 P) .nil .nil) (.node ((fun _ => b3Chunk 29) P) .nil .nil)) (.node (o48S6 P) (.node ((fun _ => b3Chunk 13) P) .nil .nil) .nil)) (.node (o24S0 P) (.node (o40S6 P) (.node ((fun _ => b3Chunk 5) P) .nil .nil) (.node ((fun _ => b3Chunk 37) P) .nil .nil)) (.node (o56S7 P) (.node ((fun _ => b3Chunk 21) P) .nil .nil) .nil))) (.node (o12S0 P) (.node (o20S0 P) (.node (o36S6 P) (.node ((fun _ => b3Chunk 1) P) .nil .nil) (.node ((fun _ => b3Chunk 33) P) .nil .nil)) (.node (o52S7 P) (.node ((fun _ => b3Chunk 17) P) .nil .nil) .nil)) (.node (o28Sa P) (.node (o44S6 P) (.node ((fun _ => b3Chunk 9) P) .nil .nil) .nil) (.node (o60S8 P) (.node ((fun _ => b3Chunk 25) P) .nil .nil) .nil)))) (.node (o6S0 P) (.node (o10S0 P) (.node (o18S0 P) (.node (o34S6 P) (.node (o66S8 P) .nil .nil) (.node ((fun _ => b3Chunk 31) P) .nil .nil)) (.node (o50S7 P) (.node ((fun _ => b3Chunk 15) P) .nil .nil) .nil)) (.node (o26S0 P) (.node (o42S6 P) (.node ((fun _ => b3Chunk 7) P) .nil .nil) .nil) (.node (o58S7 P) (.node ((fun _ => b3Chunk 23) P) .nil .nil) .nil))) (.node (o14S0 P) (.node (o22S0 P) (.node (o38S6 P) (.node ((fun _ => b3Chunk 3) P) .nil .nil) (.node ((fun _ => b3Chunk 35) P) .nil .nil)) (.node (o54S7 P) (.node ((fun _ => b3Chunk 19) P) .nil .nil) .nil)) (.node (o30Sa P) (.node (o46S6 P) (.node ((fun _ => b3Chunk 11) P) .nil .nil) .nil) (.node (o62S8 P) (.node ((fun _ => b3Chunk 27) P) .nil .nil) .nil))))))
noncomputable def o3S20 (P : Params) : Obj := ⟨.type "dict", none, .dict #[⟨PyData.keyHash P (Str.ofString "__name__"), .str (Str.ofString "__name__") 165, .str (Str.ofString "law_re0094_01") 2399⟩, ⟨PyData.keyHash P (Str.ofString "__doc__"), .str (Str.ofString "__doc__") 166, .none⟩, ⟨PyData.keyHash P (Str.ofString "__package__"), .str (Str.ofString "__package__") 167, .none⟩, ⟨PyData.keyHash P (Str.ofString "__loader__"), .str (Str.ofString "__loader__") 168, .builtin "__main__.__loader__#opaque"⟩, ⟨PyData.keyHash P (Str.ofString "__spec__"), .str (Str.ofString "__spec__") 169, .none⟩, ⟨PyData.keyHash P (Str.ofString "__annotations__"), .str (Str.ofString "__annotations__") 170, .ref 6⟩, ⟨PyData.keyHash P (Str.ofString "__builtins__"), .str (Str.ofString "__builtins__") 171, .ref 4⟩, ⟨PyData.keyHash P (Str.ofString "__file__"), .str (Str.ofString "__file__") 173, .str (Str.ofString "/claim/cut.py") 172⟩, ⟨PyData.keyHash P (Str.ofString "__cached__"), .str (Str.ofString "__cached__") 174, .none⟩, ⟨PyData.keyHash P (Str.ofString "_sre"), .str (Str.ofString "_sre") 275, .ref 12⟩, ⟨PyData.keyHash P (Str.ofString "_twin_re_1"), .str (Str.ofString "_twin_re_1") 299, .ref 36⟩, ⟨PyData.keyHash P (Str.ofString "_twin_re_2"), .str (Str.ofString "_twin_re_2") 341, .ref 41⟩, ⟨PyData.keyHash P (Str.ofString "CRLF"), .str (Str.ofString "CRLF") 343, .str (Str.mk #[13, 10]) 342⟩, ⟨PyData.keyHash P (Str.ofString "quotedata"), .str (Str.ofString "quotedata") 350, .ref 48⟩, ⟨PyData.keyHash P (Str.ofString "b1_set"), .str (Str.ofString "b1_set") 412, .ref 56⟩, ⟨PyData.keyHash P (Str.ofString "in_table_b1"), .str (Str.ofString "in_table_b1") 419, .ref 66⟩, ⟨PyData.keyHash P (Str.ofString "b3_exceptions"), .str (Str.ofString "b3_exceptions") 2370, .ref 67⟩, ⟨PyData.keyHash P (Str.ofString "map_table_b3"), .str (Str.ofString "map_table_b3") 2378, .ref 112⟩, ⟨PyData.keyHash P (Str.ofString "ENDMARKER"), .str (Str.ofString "ENDMARKER") 2382, .int 0 2381⟩, ⟨PyData.keyHash P (Str.ofString "NT_OFFSET"), .str (Str.ofString "NT_OFFSET") 2384, .int 256 2383⟩, ⟨PyData.keyHash P (Str.ofString "ISTERMINAL"), .str (Str.ofString "ISTERMINAL") 2391, .ref 119⟩, ⟨PyData.keyHash P (Str.ofString "ISEOF"), .str (Str.ofString "ISEOF") 2398, .ref 126⟩, ⟨PyData.keyHash P (Str.ofString "_law_item"), .str (Str.ofString "_law_item") 2410, .ref 133⟩, ⟨PyData.keyHash P (Str.ofString "_law_grown"), .str (Str.ofString "_law_grown") 2416, .ref 138⟩, ⟨PyData.keyHash P (Str.ofString "_law_pass"), .str (Str.ofString "_law_pass") 2428, .ref 145⟩, ⟨PyData.keyHash P (Str.ofString "law"), .str (Str.ofString "law") 2434, .ref 150⟩] 26, #[]⟩
noncomputable def o29S20 (P : Params) : Obj := ⟨.none, none, .fields #[.int 6 0, .int 0 0, .ref 47, .int 10 0, .int 0 0, .ref 65, .int 13 0, .int 0 0, .ref 111, .int 21 0, .int 0 0, .ref 118, .int 23 0, .int 0 0, .ref 125, .int 26 0, .int 0 0, .ref 132, .int 31 0, .int 0 0, .ref 137, .int 39 0, .int 0 0, .ref 144, .int 54 0, .int 0 0, .ref 149], #[]⟩
noncomputable def o106S20 (P : Params) : Obj := ⟨.type "tuple", none, .seq #[] 0, #[]⟩
noncomputable def o107S20 (P : Params) : Obj := ⟨.none, none, .fields #[], #[]⟩
noncomputable def o108S20 (P : Params) : Obj := ⟨.type "tuple", none, .seq #[.str (Str.ofString "code") 2374, .str (Str.ofString "r") 2375] 0, #[]⟩
noncomputable def o109S20 (P : Params) : Obj := ⟨.type "tuple", none, .seq #[] 0, #[]⟩
noncomputable def o110S20 (P : Params) : Obj := ⟨.none, none, .func (fnAt 10 0 (.none) (.none) 0), #[]⟩
noncomputable def o111S20 (P : Params) : Obj := ⟨.type "code", none, .fields #[.str (Str.ofString "map_table_b3") 2371, .str (Str.ofString "map_table_b3") 2372, .str (Str.ofString "/claim/cut.py") 2373, .int 13 0, .int 1 0, .int 0 0, .int 0 0, .int 3 0, .ref 106, .bool true, .int 276 0, .ref 107, .none, .ref 108, .ref 109, .ref 110, .int 2376 0, .int 13 0, .str (Str.ofString "/claim/cut.py") 2377], #[]⟩
noncomputable def o112S20 (P : Params) : Obj := ⟨.type "function", none, .func (fnAt 10 3 (.str (Str.ofString "cpy313.stringprep") 351) (.ref 111) 0), #[]⟩
noncomputable def o113S20 (P : Params) : Obj := ⟨.type "tuple", none, .seq #[] 0, #[]⟩
noncomputable def o114S20 (P : Params) : Obj := ⟨.none, none, .fields #[], #[]⟩
noncomputable def o115S20 (P : Params) : Obj := ⟨.type "tuple", none, .seq #[.str (Str.ofString "x") 2388] 0, #[]⟩
noncomputable def o116S20 (P : Params) : Obj := ⟨.type "tuple", none, .seq #[] 0, #[]⟩
noncomputable def o117S20 (P : Params) : Obj := ⟨.none, none, .func (fnAt 14 0 (.none) (.none) 0), #[]⟩
noncomputable def o118S20 (P : Params) : Obj := ⟨.type "code", none, .fields #[.str (Str.ofString "ISTERMINAL") 2385, .str (Str.ofString "ISTERMINAL") 2386, .str (Str.ofString "/claim/cut.py") 2387, .int 21 0, .int 1 0, .int 0 0, .int 0 0, .int 3 0, .ref 113, .bool true, .int 276 0, .ref 114, .none, .ref 115, .ref 116, .ref 117, .int 2389 0, .int 21 0, .str (Str.ofString "/claim/cut.py") 2390], #[]⟩
noncomputable def o119S20 (P : Params) : Obj := ⟨.type "function", none, .func (fnAt 14 3 (.str (Str.ofString "cpy313.token") 2379) (.ref 118) 0), #[]⟩
noncomputable def o120S20 (P : Params) : Obj := ⟨.type "tuple", none, .seq #[] 0, #[]⟩
noncomputable def o121S20 (P : Params) : Obj := ⟨.none, none, .fields #[], #[]⟩
noncomputable def o122S20 (P : Params) : Obj := ⟨.type "tuple", none, .seq #[.str (Str.ofString "x") 2395] 0, #[]⟩
noncomputable def o123S20 (P : Params) : Obj := ⟨.type "tuple", none, .seq #[] 0, #[]⟩
noncomputable def o124S20 (P : Params) : Obj := ⟨.none, none, .func (fnAt 15 0 (.none) (.none) 0), #[]⟩
noncomputable def o125S20 (P : Params) : Obj := ⟨.type "code", none, .fields #[.str (Str.ofString "ISEOF") 2392, .str (Str.ofString "ISEOF") 2393, .str (Str.ofString "/claim/cut.py") 2394, .int 23 0, .int 1 0, .int 0 0, .int 0 0, .int 3 0, .ref 120, .bool true, .int 276 0, .ref 121, .none, .ref 122, .ref 123, .ref 124, .int 2396 0, .int 23 0, .str (Str.ofString "/claim/cut.py") 2397], #[]⟩
noncomputable def o126S20 (P : Params) : Obj := ⟨.type "function", none, .func (fnAt 15 3 (.str (Str.ofString "cpy313.token") 2379) (.ref 125) 0), #[]⟩
noncomputable def o127S20 (P : Params) : Obj := ⟨.type "tuple", none, .seq #[] 0, #[]⟩
noncomputable def o128S20 (P : Params) : Obj := ⟨.none, none, .fields #[], #[]⟩
noncomputable def o129S20 (P : Params) : Obj := ⟨.type "tuple", none, .seq #[.str (Str.ofString "x") 2404, .str (Str.ofString "stocks") 2405, .str (Str.ofString "kind") 2406, .str (Str.ofString "stock") 2407] 0, #[]⟩
noncomputable def o130S20 (P : Params) : Obj := ⟨.type "tuple", none, .seq #[] 0, #[]⟩
noncomputable def o131S20 (P : Params) : Obj := ⟨.none, none, .func (fnAt 17 0 (.none) (.none) 0), #[]⟩
noncomputable def o132S20 (P : Params) : Obj := ⟨.type "code", none, .fields #[.str (Str.ofString "_law_item") 2401, .str (Str.ofString "_law_item") 2402, .str (Str.ofString "/claim/cut.py") 2403, .int 26 0, .int 1 0, .int 0 0, .int 0 0, .int 3 0, .ref 127, .bool true, .int 276 0, .ref 128, .none, .ref 129, .ref 130, .ref 131, .int 2408 0, .int 26 0, .str (Str.ofString "/claim/cut.py") 2409], #[]⟩
noncomputable def o133S20 (P : Params) : Obj := ⟨.type "function", none, .func (fnAt 17 3 (.str (Str.ofString "law_re0094_01") 2399) (.ref 132) 0), #[]⟩
noncomputable def o134S20 (P : Params) : Obj := ⟨.type "tuple", none, .seq #[] 0, #[]⟩
noncomputable def o135S20 (P : Params) : Obj := ⟨.none, none, .fields #[], #[]⟩
noncomputable def o136S20 (P : Params) : Obj := ⟨.none, none, .func (fnAt 18 0 (.none) (.none) 0), #[]⟩
noncomputable def o137S20 (P : Params) : Obj := ⟨.type "code", none, .fields #[.str (Str.ofString "_law_grown") 2411, .str (Str.ofString "_law_grown") 2412, .str (Str.ofString "/claim/cut.py") 2413, .int 31 0, .int 1 0, .int 0 0, .int 0 0, .int 3 0, .ref 134, .bool true, .int 276 0, .ref 135, .none, .none, .none, .ref 136, .int 2414 0, .int 31 0, .str (Str.ofString "/claim/cut.py") 2415], #[]⟩
noncomputable def o138S20 (P : Params) : Obj := ⟨.type "function", none, .func (fnAt 18 3 (.str (Str.ofString "law_re0094_01") 2399) (.ref 137) 0), #[]⟩
noncomputable def o139S20 (P : Params) : Obj := ⟨.type "tuple", none, .seq #[] 0, #[]⟩
noncomputable def o140S20 (P : Params) : Obj := ⟨.none, none, .fields #[], #[]⟩
noncomputable def o141S20 (P : Params) : Obj := ⟨.type "tuple", none, .seq #[.str (Str.ofString "boxes") 2420, .str (Str.ofString "room") 2421, .str (Str.ofString "load") 2422, .str (Str.ofString "taken") 2423, .str (Str.ofString "left") 2424, .str (Str.ofString "box") 2425] 0, #[]⟩
noncomputable def o142S20 (P : Params) : Obj := ⟨.type "tuple", none, .seq #[] 0, #[]⟩
noncomputable def o143S20 (P : Params) : Obj := ⟨.none, none, .func (fnAt 19 0 (.none) (.none) 0), #[]⟩
noncomputable def o144S20 (P : Params) : Obj := ⟨.type "code", none, .fields #[.str (Str.ofString "_law_pass") 2417, .str (Str.ofString "_law_pass") 2418, .str (Str.ofString "/claim/cut.py") 2419, .int 39 0, .int 2 0, .int 0 0, .int 0 0, .int 3 0, .ref 139, .bool true, .int 276 0, .ref 140, .none, .ref 141, .ref 142, .ref 143, .int 2426 0, .int 39 0, .str (Str.ofString "/claim/cut.py") 2427], #[]⟩
noncomputable def o145S20 (P : Params) : Obj := ⟨.type "function", none, .func (fnAt 19 3 (.str (Str.ofString "law_re0094_01") 2399) (.ref 144) 0), #[]⟩
noncomputable def o146S20 (P : Params) : Obj := ⟨.type "tuple", none, .seq #[] 0, #[]⟩
noncomputable def o147S20 (P : Params) : Obj := ⟨.none, none, .fields #[], #[]⟩
noncomputable def o148S20 (P : Params) : Obj := ⟨.none, none, .func (fnAt 20 0 (.none) (.none) 0), #[]⟩
noncomputable def o149S20 (P : Params) : Obj := ⟨.type "code", none, .fields #[.str (Str.ofString "law") 2429, .str (Str.ofString "law") 2430, .str (Str.ofString "/claim/cut.py") 2431, .int 54 0, .int 1 0, .int 0 0, .int 0 0, .int 3 0, .ref 146, .bool true, .int 276 0, .ref 147, .none, .none, .none, .ref 148, .int 2432 0, .int 54 0, .str (Str.ofString "/claim/cut.py") 2433], #[]⟩
noncomputable def o150S20 (P : Params) : Obj := ⟨.type "function", none, .func (fnAt 20 3 (.str (Str.ofString "law_re0094_01") 2399) (.ref 149) 0), #[]⟩
noncomputable def tS20 (P : Params) : BT := (.node (o0S0 P) (.node (o1S0 P) (.node (o3S20 P) (.node (o7S0 P) (.node (o15S0 P) (.node (o31Sa P) (.node (o63S8 P) (.node (o127S20 P) .nil .nil) .nil) (.node ((fun _ => b3Chunk 28) P) .nil .nil)) (.node (o47S6 P) (.node ((fun _ => b3Chunk 12) P) (.node (o143S20 P) .nil .nil) .nil) (.node (o111S20 P) .nil .nil))) (.node (o23S0 P) (.node (o39S6 P) (.node ((fun _ => b3Chunk 4) P) (.node (o135S20 P) .nil .nil) .nil) (.node ((fun _ => b3Chunk 36) P) .nil .nil)) (.node (o55S7 P) (.node ((fun _ => b3Chunk 20) P) .nil .nil) (.node (o119S20 P) .nil .nil)))) (.node (o11S0 P) (.node (o19S0 P) (.node (o35S6 P) (.node ((fun _ => b3Obj) P) (.node (o131S20 P) .nil .nil) .nil) (.node ((fun _ => b3Chunk 32) P) .nil .nil)) (.node (o51S7 P) (.node ((fun _ => b3Chunk 16) P) (.node (o147S20 P) .nil .nil) .nil) (.node (o115S20 P) .nil .nil))) (.node (o27S0 P) (.node (o43S6 P) (.node ((fun _ => b3Chunk 8) P) (.node (o139S20 P) .nil .nil) .nil) (.node (o107S20 P) .nil .nil)) (.node (o59S7 P) (.node ((fun _ => b3Chunk 24) P) .nil .nil) (.node (o123S20 P) .nil .nil))))) (.node (o5S0 P) (.node (o9S0 P) (.node (o17S0 P) (.node (o33S6 P) (.node (o65S8 P) (.node (o129S20 P) .nil .nil) .nil) (.node ((fun _ => b3Chunk 30) P) .nil .nil)) (.node (o49S7 P) (.node ((fun _ => b3Chunk 14) P) (.node (o145S20 P) .nil .nil) .nil) (.node (o113S20 P) .nil .nil))) (.node (o25S0 P) (.node (o41S6 P) (.node ((fun _ => b3Chunk 6) P) (.node (o137S20 P) .nil .nil) .nil) (.node ((fun _ => b3Chunk 38) P) .nil .nil)) (.node (o57S7 P) (.node ((fun _ => b3Chunk 22) P) .nil .nil) (.node (o121S20 P) .nil .nil)))) (.node (o13S0 P) (.node (o21S0 P) (.node (o37S6 P) (.node ((fun _ => b3Chunk 2) P) (.node (o133S20 P) .nil .nil) .nil) (.node ((fun _ => b3Chunk 34) P) .nil .nil)) (.node (o53S7 P) (.node ((fun _ => b3Chunk 18) P) (.node (o149S20 P) .nil .nil) .nil) (.node (o117S20 P) .nil .nil))) (.node (o29S20 P) (.node (o45S6 P) (.node ((fun _ => b3Chunk 10) P) (.node (o141S20 P) .nil .nil) .nil) (.node (o109S20 P) .nil .nil)) (.node (o61S8 P) (.node ((fun _ => b3Chunk 26) P) .nil .nil) (.node (o125S20 P) .nil .nil)))))) (.node (o2S0 P) (.node (o4S0 P) (.node (o8S0 P) (.node (o16S0 P) (.node (o32S6 P) (.node (o64S8 P) (.node (o128S20 P) .nil .nil) .nil) (.node ((fun _ => b3Chunk 29) P) .nil .nil)) (.node (o48S6 P) (.node ((fun _ => b3Chunk 13) P) (.node (o144S20 P) .nil .nil) .nil) (.node (o112S20 P) .nil .nil))) (.node (o24S0 P) (.node (o40S6 P) (.node ((fun _ => b3Chunk 5) P) (.node (o136S20 P) .nil .nil) .nil) (.node ((fun _ => b3Chunk 37) P) .nil .nil)) (.node (o56S7 P) (.node ((fun _ => b3Chunk 21) P) .nil .nil) (.node (o120S20 P) .nil .nil)))) (.node (o12S0 P) (.node (o20S0 P) (.node (o36S6 P) (.node ((fun _ => b3Chunk 1) P) (.node (o132S20 P) .nil .nil) .nil) (.node ((fun _ => b3Chunk 33) P) .nil .nil)) (.node (o52S7 P) (.node ((fun _ => b3Chunk 17) P) (.node (o148S20 P) .nil .nil) .nil) (.node (o116S20 P) .nil .nil))) (.node (o28Sa P) (.node (o44S6 P) (.node ((fun _ => b3Chunk 9) P) (.node (o140S20 P) .nil .nil) .nil) (.node (o108S20 P) .nil .nil)) (.node (o60S8 P) (.node ((fun _ => b3Chunk 25) P) .nil .nil) (.node (o124S20 P) .nil .nil))))) (.node (o6S0 P) (.node (o10S0 P) (.node (o18S0 P) (.node (o34S6 P) (.node (o66S8 P) (.node (o130S20 P) .nil .nil) .nil) (.node ((fun _ => b3Chunk 31) P) .nil .nil)) (.node (o50S7 P) (.node ((fun _ => b3Chunk 15) P) (.node (o146S20 P) .nil .nil) .nil) (.node (o114S20 P) .nil .nil))) (.node (o26S0 P) (.node (o42S6 P) (.node ((fun _ => b3Chunk 7) P) (.node (o138S20 P) .nil .nil) .nil) (.node (o106S20 P) .nil .nil)) (.node (o58S7 P) (.node ((fun _ => b3Chunk 23) P) .nil .nil) (.node (o122S20 P) .nil .nil)))) (.node (o14S0 P) (.node (o22S0 P) (.node (o38S6 P) (.node ((fun _ => b3Chunk 3) P) (.node (o134S20 P) .nil .nil) .nil) (.node ((fun _ => b3Chunk 35) P) .nil .nil)) (.node (o54S7 P) (.node ((fun _ => b3Chunk 19) P) (.node (o150S20 P) .nil .nil) .nil) (.node (o118S20 P) .nil .nil))) (.node (o30Sa P) (.node (o46S6 P) (.node ((fun _ => b3Chunk 11) P) (.node (o142S20 P) .nil .nil) .nil) (.node (o110S20 P) .nil .nil)) (.node (o62S8 P) (.node ((fun _ => b3Chunk 27) P) .nil .nil) (.node (o126S20 P) .nil .nil)))))))
end Mine
end
noncomputable section
open PySem PySem.W PyProof.Rows
set_option maxRecDepth 100000
namespace Mine
def life0 : Life := {}
def envE : Env := { scope := P0.main.scope, locals := mainNs, globals := mainNs, cells := [], code := .ref 30, frame := some 31 }
def cE : Code := .body (behindTheImports P0) envE
def sts (a b : Nat) : List Stmt := ((behindTheImports P0).drop a).take (b - a)
def at_ (t : BT) (n k : Nat) (os : OsState) : SharedT := ⟨t, n, life0, #[], {}, k, os⟩
theorem p1 (w : World) (os : OsState) : segRunT treeTable P0 w 28 (some (.ref 6)) 1 201 (at_ (tSa w.params) 32 282 os) (piecesOf (sts 0 6) envE cE default [topFrame default]) =
    some (.next, at_ (tS6 w.params) 49 353 os, cE, ⟨8, 0, 8, 8⟩) := by
  rw [Fast.te10110043849684766642, Fast.te14364793385576792824]
  show _ = _
  unfold piecesOf
  rw [Fast.te12563942051412417395]
  kernel_rfl
end Mine
end
noncomputable section
open PySem PySem.W PyProof.Rows
set_option maxRecDepth 100000
namespace Mine
theorem p2 (w : World) : (fun os => segRunT treeTable P0 w 28 (some (.ref 6)) 1 999 (at_ (tS6 w.params) 49 353 os) (piecesOf (sts 6 7) envE cE ⟨8, 0, 8, 8⟩ [topFrame default])) =
    fun os => some (.next, at_ (tS7 w.params) 60 413 os, cE, ⟨9, 0, 9, 6⟩) := by
  rw [Fast.te10110043849684766642, Fast.te14364793385576792824]
  unfold piecesOf
  rw [Fast.te12563942051412417395]
  revert w
  refine byRow2 "set-order" ?_ ?_
  · refine byRow2 "special-get-raises" ?_ ?_
    · intro w; kernel_rfl
    · intro w; kernel_rfl
  · refine byRow2 "special-get-raises" ?_ ?_
    · intro w; kernel_rfl
    · intro w; kernel_rfl
end Mine
end
noncomputable section
open PySem PySem.W PyProof.Rows
set_option maxRecDepth 100000
namespace Mine
theorem p3 (w : World) : (fun os => segRunT treeTable P0 w 28 (some (.ref 6)) 1 30 (at_ (tS7 w.params) 60 413 os) (piecesOf (sts 7 8) envE cE ⟨9, 0, 9, 6⟩ [topFrame default])) =
    fun os => some (.next, at_ (tS8 w.params) 67 420 os, cE, ⟨10, 0, 11, 30⟩) := by
  rw [Fast.te10110043849684766642, Fast.te14364793385576792824]
  unfold piecesOf
  rw [Fast.te12563942051412417395]
  kernel_rfl
theorem p5 (w : World) : (fun os => segRunT treeTable P0 w 28 (some (.ref 6)) 1 243 (at_ (tS9 w.params) 106 2371 os) (piecesOf (sts 9 20) envE cE ⟨12, 0, 12, 13⟩ [topFrame default])) =
    fun os => some (.next, at_ (tS20 w.params) 151 2435 os, cE, ⟨54, 0, 78, 70⟩) := by
  rw [Fast.te10110043849684766642, Fast.te14364793385576792824]
  unfold piecesOf
  rw [Fast.te12563942051412417395]
  kernel_rfl
end Mine
end
noncomputable section
open PySem PySem.W PyProof.Rows
set_option maxRecDepth 100000
namespace Mine
theorem open0 (w : World) : (fencedOpening treeTable P0 w 30000).map (fun s => (s.heap, s.gens, s.drawn, s.toks)) = some (absHeap (tS0 w.params) 28 life0, #[], {}, 276) := by
  unfold fencedOpening
  rw [Fast.te10274390034422433532, Fast.te14364793385576792824, Fast.te14289696077712309145, Fast.te1435165496053646825]
  kernel_rfl
end Mine
end
noncomputable section
open PySem PySem.W PyProof.Rows
set_option maxRecDepth 100000
namespace Mine.Head
abbrev run_ (w : World) (N : Nat) (s : Shared) (t : Thread) : Option Shared := topRun treeTable P0 w 28 (some (.ref 6)) N s t
/-- m gives a from s at p, with s' at p' behind it, in at most n steps, under any continuation -/
def Ev {α : Type} (w : World) (n : Nat) (m : Sem α) (s : Shared) (p : Pos) (a : α) (s' : Shared) (p' : Pos) : Prop :=
  ∀ (K : α → Sem PySem.Fin) (H : Value → Sem PySem.Fin) (gd : Bool → Bool) (lv : List Value → List Value) (c : Code) (f : PySem.Frame) (B : List PySem.Frame) (N : Nat) (r : Shared),
    run_ w N s' ⟨K a, c, p', f :: B⟩ = some r → run_ w (n + N) s ⟨m.wrap K H gd lv, c, p, f :: B⟩ = some r
section
variable {α β : Type} {w : World} {n n' : Nat} {s s' s'' : Shared} {p p' p'' : Pos} {a : α} {b : β} {m : Sem α}
theorem Ev.pure : Ev w 0 (Sem.pure a) s p a s p := fun K H gd lv c f B N r h => by rw [Nat.zero_add]; exact h
theorem Ev.bind {k : α → Sem β} (h : Ev w n m s p a s' p') (h' : Ev w n' (k a) s' p' b s'' p'') : Ev w (n + n') (m.bind k) s p b s'' p'' := fun K H gd lv c f B N r q => by
  rw [Sem.bind_eq_wrap, Sem.wrap_wrap, Nat.add_assoc]
  exact h _ _ _ _ c f B _ r (h' K H gd lv c f B N r q)
theorem Ev.keep {vs : List Value} (h : Ev w n m s p a s' p') : Ev w n (m.keep vs) s p a s' p' := fun K H gd lv c f B N r q => by
  rw [Sem.keep_eq_wrap, Sem.wrap_wrap]
  exact h _ _ _ _ c f B N r q
theorem Ev.holding {vs : List Value} (h : Ev w n m s p a s' p') : Ev w n (holding vs m) s p a s' p' := by
  unfold PySem.holding
  split
  · exact h
  · exact h.keep
theorem Ev.onRaise {hd : Value → Sem Unit} (h : Ev w n m s p a s' p') : Ev w n (m.onRaise hd) s p a s' p' := fun K H gd lv c f B N r q => by
  rw [Sem.onRaise_eq_wrap, Sem.wrap_wrap]
  exact h _ _ _ _ c f B N r q
theorem Ev.tryCatch {hd : Value → Sem α} (h : Ev w n m s p a s' p') : Ev w n (m.tryCatch hd) s p a s' p' := fun K H gd lv c f B N r q => by
  rw [Sem.tryCatch_eq_wrap, Sem.wrap_wrap]
  exact h _ _ _ _ c f B N r q
theorem Ev.le (h : Ev w n m s p a s' p') (l : n ≤ n') : Ev w n' m s p a s' p' := fun K H gd lv c f B N r q => by
  have := topRun_mono (n' - n) _ _ _ _ (h K H gd lv c f B N r q)
  rw [show n' + N = n + N + (n' - n) by omega]
  exact this
theorem run_step {N : Nat} {s s' : Shared} {t t' : Thread} {r : Shared} (h1 : through t = false) (h2 : stepOk 28 (some (.ref 6)) t = true) (h3 : step (denote treeTable) P0 w s t = .go s' t') (h : run_ w N s' t' = some r) : run_ w (1 + N) s t = some r := by
  rw [Nat.add_comm]
  show topRun _ _ _ _ _ (N + 1) _ _ = _
  unfold topRun
  rw [h1, h2, h3]
  exact h
theorem Ev.rule {tag : String} : Ev w 1 (PySem.rule tag) s p () s p := fun K H gd lv c f B N r q => run_step rfl rfl rfl q
theorem Ev.at {q : Pos} : Ev w 1 (standAt q) s p () s q := fun K H gd lv c f B N r q => run_step rfl rfl rfl q
theorem Ev.fresh : Ev w 1 PySem.fresh s p s.toks { s with toks := s.toks + 1 } p := fun K H gd lv c f B N r q => run_step rfl rfl rfl q
theorem Ev.ask : Ev w 1 PySem.ask s p ⟨P0, w.params⟩ s p := fun K H gd lv c f B N r q => run_step rfl rfl rfl q
theorem Ev.alloc {o : Obj} : Ev w 1 (PySem.alloc o) s p s.heap.objs.size { s with heap := s.heap.push o } p := fun K H gd lv c f B N r q => run_step rfl rfl rfl q
theorem Ev.load {d : Addr} {part : Option Value} {o : Obj} (h : s.heap.get? d = some o) : Ev w 1 (PySem.loadPart d part) s p o s p := fun K H gd lv c f B N r q => by
  refine run_step rfl rfl ?_ q
  obtain ⟨heap, gens, drawn, toks, os⟩ := s
  show step _ _ _ _ ⟨.load d part _, _, _, _⟩ = _
  dsimp only at h
  simp only [step, h]
  rfl
theorem Ev.update {d : Addr} {part : Option Value} {f : Obj → Obj} {o : Obj} (h : s.heap.get? d = some o) (hd : 28 ≤ d) : Ev w 1 (PySem.updatePart d part f) s p () { s with heap := s.heap.update d f } p := fun K H gd lv c f B N r q => by
  refine run_step rfl ?_ ?_ q
  · show (Nat.ble 28 d || _ || _ || _) = true
    rw [Nat.ble_eq_true_of_le hd]; rfl
  · obtain ⟨heap, gens, drawn, toks, os⟩ := s
    show step _ _ _ _ ⟨.update d part _ _, _, _, _⟩ = _
    dsimp only at h
    simp only [step, h]
    rfl
theorem Sem.wrap_self (m : Sem α) : m.wrap Sem.pure .raise id id = m := by
  rw [← Sem.bind_eq_wrap]
  induction m <;> simp only [Sem.bind, *]
/-- a call whose code's walk is known -/
theorem Ev.call {cd : Code} {hn : Option Value} {g : Bool} {l : List Value} {fl : Flow} {body : Sem PySem.Fin} (hb : denote treeTable cd = body) (h : Ev w n body s p (PySem.Fin.done fl) s' p') :
    Ev w (1 + (n + 1)) (Sem.call cd hn g l Sem.pure) s p (Except.ok fl) s' p := fun K H gd lv c f B N r q => by
  rw [Nat.add_assoc]
  refine run_step (s' := s) rfl rfl rfl ?_
  rw [hb]
  have := h Sem.pure .raise id id cd
  rw [Sem.wrap_self] at this
  rw [Nat.add_assoc]
  refine this _ _ _ _ ?_
  exact run_step rfl rfl rfl q
end
end Mine.Head
end
noncomputable section
open PySem PySem.W PyProof.Rows
set_option maxRecDepth 100000
namespace Mine.Head
theorem Ev.callAgain {w : World} {n : Nat} {s s' : Shared} {p p' : Pos} {fv : Value} {a a2 : Args} {nm : String} {hn : Option Value} {g : Bool} {l : List Value} {fl : Flow} {body : Sem PySem.Fin}
    (hb : denote treeTable (.call fv a) = .pure (.again (.builtin nm a2))) (hid : nm.startsWith "lifetime." = false) (hb2 : denote treeTable (.builtin nm a2) = body)
    (h : Ev w n body s p (PySem.Fin.done fl) s' p') :
    Ev w (1 + (1 + (n + 1))) (Sem.call (.call fv a) hn g l Sem.pure) s p (Except.ok fl) s' p := fun K H gd lv c f B N r q => by
  rw [Nat.add_assoc]
  refine run_step (s' := s) rfl rfl rfl ?_
  rw [hb, Nat.add_assoc]
  have q1 := Code.quiet_builtin (id := nm) a2 hid
  refine run_step (s' := s) rfl ?_ step_again ?_
  · show (Thread.calm _ && _) = true
    rw [Thread.calm_eq, Thread.loud_again, q1]
    rfl
  rw [hb2]
  have := h Sem.pure .raise id id (.builtin nm a2)
  rw [Sem.wrap_self] at this
  rw [Nat.add_assoc]
  refine this _ _ _ _ ?_
  exact run_step rfl rfl rfl q
theorem den1 (i : Int) (t : Tok) : denote treeTable (.call (.builtin "int.__hash__") ⟨[.int i t], []⟩) = .pure (.again (.builtin "int.__hash__" ⟨[.int i t], []⟩)) := by
  rw [Fast.te14364793385576792824]
  kernel_rfl
theorem den2 (i : Int) (t : Tok) : denote treeTable (.builtin "int.__hash__" ⟨[.int i t], []⟩) = (do ret (← mkInt (rawHash i))) := by
  rw [Fast.te14364793385576792824]
  kernel_rfl
theorem spec_hash (i : Int) (t : Tok) : specialOf (.int i t) "__hash__" = Sem.pure (some (.builtin "int.__hash__")) := by kernel_rfl
theorem bind_hash (i : Int) (t : Tok) : bindSpecial (.builtin "int.__hash__") (.int i t) = Sem.pure (.builtin "int.__hash__", [.int i t]) := by kernel_rfl
section
variable {α β : Type} {w : World} {n n' : Nat} {s s' s'' : Shared} {p p' p'' : Pos} {a : α} {b : β} {m : Sem α}
theorem Ev.bind' {k : α → Sem β} (h : Ev w n m s p a s' p') (h' : Ev w n' (k a) s' p' b s'' p'') : Ev w (n + n') (m >>= k) s p b s'' p'' := h.bind h'
theorem Ev.pbind {k : α → Sem β} (h' : Ev w n' (k a) s p b s'' p'') : Ev w n' (Sem.pure a >>= k) s p b s'' p'' := h'
theorem Ev.run {cd : Code} {fl : Flow} (h : Ev w n (Sem.call cd none false [] Sem.pure) s p (Except.ok fl) s' p') : Ev w n (PySem.run cd) s p fl s' p' := fun K H gd lv c f B N r q =>
  h (fun r => ((match r with | .ok f => Sem.pure f | .error e => .raise e) : Sem Flow).wrap K H gd lv) H gd lv c f B N r q
end
theorem ev_call_hash {w : World} {s : Shared} {p : Pos} (i : Int) (t : Tok) : Ev w 4 (PySem.call (.builtin "int.__hash__") [.int i t]) s p (.int (rawHash i) s.toks) { s with toks := s.toks + 1 } p := by
  unfold PySem.call runValue
  refine Ev.bind' (n := 4) (n' := 0) (a := .ret (.int (rawHash i) s.toks)) (Ev.run (Ev.callAgain (n := 1) (p' := p) (den1 i t) (by decide +kernel) (den2 i t) ?_)) Ev.pure
  exact Ev.bind' (n := 1) (n' := 0) (a := .int (rawHash i) s.toks) (Ev.bind' (n := 1) (n' := 0) Ev.fresh Ev.pure) Ev.pure
theorem ev_cs {w : World} {s : Shared} {p : Pos} (i : Int) (t : Tok) (refuse : Sem Value) : Ev w 5 (callSpecialIfBoundUnlessNone? (.int i t) "__hash__" refuse) s p (some (.int (rawHash i) s.toks)) { s with toks := s.toks + 1 } p := by
  unfold callSpecialIfBoundUnlessNone? bindSpecialIfBound?
  simp only [spec_hash, bind_hash]
  refine Ev.holding (Ev.bind' (n := 1) (n' := 4) (s' := s) (p' := p) (a := some (.builtin "int.__hash__", [.int i t])) ?_ ?_)
  · refine Ev.pbind (Ev.bind' (n := 1) (n' := 0) Ev.ask ?_)
    split
    · exact Ev.pure
    · exact Ev.tryCatch Ev.pure
  · exact Ev.bind' (n := 4) (n' := 0) (ev_call_hash i t) Ev.pure
theorem ev_hash {w : World} {s : Shared} {p : Pos} (i : Int) (t : Tok) (h : rawHash i = i) (h0 : 0 ≤ i) (h1 : i < 2 ^ 63) : Ev w 5 (pyHash (.int i t)) s p i { s with toks := s.toks + 1 } p := by
  show Ev w 5 (pyHashByItsType _) _ _ _ _ _
  unfold pyHashByItsType
  simp only [spec_hash]
  refine Ev.pbind (Ev.pbind (Ev.pbind (Ev.pbind (Ev.pbind (Ev.bind' (n := 5) (n' := 0) (ev_cs i t _) ?_)))))
  show Ev w 0 (pyHashByItsType.reduced (rawHash i)) _ _ _ _ _
  rw [h]
  unfold pyHashByItsType.reduced
  rw [if_pos (by simp; omega), if_neg (by simp; omega)]
  exact Ev.pure
end Mine.Head
end
noncomputable section
open PySem PySem.W PyProof.Rows
set_option maxRecDepth 100000
namespace Mine.Head
theorem places_nil {es : Array DictEntry} {h : Int} (hn : ∀ e ∈ es, e.hash ≠ h) : placesWithHash es.size (fun i => es[i]?.map (·.hash)) h = [] := by
  unfold placesWithHash
  rw [List.filter_eq_nil_iff]
  intro i _ q
  have q := beq_iff_eq.mp q
  obtain ⟨e, e1, e2⟩ := Option.map_eq_some_iff.mp q
  exact hn e (Array.mem_of_getElem? e1) e2
def dO (es : List DictEntry) (ep : Nat) : Obj := ⟨.type "dict", none, .dict es.toArray ep, #[]⟩
def hp (l : List Obj) : Heap := ⟨l.toArray, life0⟩
def st (l : List Obj) (k : Nat) (os : OsState) : Shared := ⟨hp l, #[], {}, k, os⟩
theorem hp_get {l r : List Obj} {es : List DictEntry} {ep : Nat} : (hp (l ++ dO es ep :: r)).get? l.length = some (dO es ep) := by
  refine Heap.get?_some_iff.mpr ⟨?_, ?_⟩
  · show (l ++ dO es ep :: r).toArray[l.length]? = _
    simp
  · rfl
theorem hp_update {l r : List Obj} {o : Obj} {f : Obj → Obj} : (hp (l ++ o :: r)).update l.length f = hp (l ++ f o :: r) := by
  show (⟨(l ++ o :: r).toArray.modify l.length f, life0⟩ : Heap) = ⟨(l ++ f o :: r).toArray, life0⟩
  congr 1
  apply Array.ext_getElem?
  intro i
  rw [Array.getElem?_modify]
  simp only [List.getElem?_toArray]
  by_cases q : l.length = i
  · subst q; simp
  · simp only [if_neg q, List.getElem?_append]
    split
    · rfl
    · have : i - l.length ≠ 0 := by omega
      obtain ⟨j, hj⟩ : ∃ j, i - l.length = j + 1 := ⟨i - l.length - 1, by omega⟩
      rw [hj]; rfl
theorem hp_push {l : List Obj} {o : Obj} : (hp l).push o = hp (l ++ [o]) := by
  unfold hp Heap.push
  simp
theorem hp_size {l : List Obj} : (hp l).objs.size = l.length := by simp [hp]
section
variable {w : World} {p : Pos} {L r : List Obj} {es : List DictEntry} {ep k : Nat} {os : OsState} {d : Addr}
theorem st_get (hd : d = L.length) : (st (L ++ dO es ep :: r) k os).heap.get? d = some (dO es ep) := by rw [hd]; exact hp_get
theorem ev_entries {part : Option Value} (hd : d = L.length) : Ev w 1 (dictEntries d part) (st (L ++ dO es ep :: r) k os) p es.toArray (st (L ++ dO es ep :: r) k os) p := by
  unfold dictEntries
  exact Ev.bind' (n := 1) (n' := 0) (Ev.load (st_get hd)) Ev.pure
theorem ev_epoch {part : Option Value} (hd : d = L.length) : Ev w 1 (dictEpoch d part) (st (L ++ dO es ep :: r) k os) p ep (st (L ++ dO es ep :: r) k os) p := by
  unfold dictEpoch
  exact Ev.bind' (n := 1) (n' := 0) (Ev.load (st_get hd)) Ev.pure
theorem ev_find {i : Int} {t : Tok} {hs : Int} (hd : d = L.length) (hn : ∀ e ∈ es, e.hash ≠ hs) : Ev w 1 (dictFind d (.int i t) hs) (st (L ++ dO es ep :: r) k os) p none (st (L ++ dO es ep :: r) k os) p := by
  unfold dictFind
  refine Ev.holding (Ev.bind' (n := 1) (n' := 0) (ev_entries hd) ?_)
  dsimp only
  rw [places_nil (by simpa using hn)]
  exact Ev.pure
theorem ev_upd {part : Option Value} {e : DictEntry} (hd : d = L.length) (h28 : 28 ≤ d) (hsz : es.length ≤ 1000) :
    Ev w 3 (updateDictKeys d (·.push e) part) (st (L ++ dO es ep :: r) k os) p () (st (L ++ dO (es ++ [e]) (ep + 1) :: r) k os) p := by
  unfold updateDictKeys
  refine Ev.bind' (n := 1) (n' := 2) (Ev.load (st_get hd)) ?_
  have e1 : ({ (st (L ++ dO es ep :: r) k os) with heap := (st (L ++ dO es ep :: r) k os).heap.update d (Obj.mapDictKeys (·.push e)) } : Shared) = st (L ++ dO (es ++ [e]) (ep + 1) :: r) k os := by
    unfold st
    dsimp only
    rw [hd, hp_update]
    have : Obj.mapDictKeys (·.push e) (dO es ep) = dO (es ++ [e]) (ep + 1) := by
      show (⟨.type "dict", none, .dict (es.toArray.push e) (ep + 1), #[]⟩ : Obj) = _
      rw [List.push_toArray]; rfl
    rw [this]
  refine Ev.bind' (n := 1) (n' := 1) (s' := st (L ++ dO (es ++ [e]) (ep + 1) :: r) k os) (e1 ▸ Ev.update (st_get hd) h28) ?_
  unfold lookBehind
  refine Ev.bind' (n := 1) (n' := 0) (Ev.load (st_get hd)) ?_
  have : (dO (es ++ [e]) (ep + 1)).data.pastItsLine = none := by
    show (if (es ++ [e]).toArray.size > sizeLine + 1 then _ else none) = none
    have : sizeLine = 16777216 := by decide
    rw [if_neg]
    simp; omega
  rw [this]
  exact Ev.pure
theorem ev_set {i : Int} {t tv : Tok} {x : Str} (hd : d = L.length) (h28 : 28 ≤ d) (hr : rawHash i = i) (h0 : 0 ≤ i) (h1 : i < 2 ^ 63) (hn : ∀ e ∈ es, e.hash ≠ i) (hsz : es.length ≤ 1000) :
    Ev w 10 (dictSet d (.int i t) (.str x tv)) (st (L ++ dO es ep :: r) k os) p () (st (L ++ dO (es ++ [⟨i, .int i t, .str x tv⟩]) (ep + 1) :: r) (k + 1) os) p := by
  unfold dictSet
  refine Ev.holding (Ev.bind' (n := 5) (n' := 5) (ev_hash i t hr h0 h1) ?_)
  unfold dictSetHashed
  refine Ev.holding (Ev.bind' (n := 1) (n' := 4) (s' := st (L ++ dO es ep :: r) (k + 1) os) (p' := p) (a := none) (ev_find hd hn) ?_)
  exact Ev.bind' (n := 1) (n' := 3) Ev.rule (ev_upd hd h28 hsz)
theorem ev_put {i : Int} {t tv : Tok} {x : Str} {hs : Int} (hd : d = L.length) (h28 : 28 ≤ d) (hn : ∀ e ∈ es, e.hash ≠ hs) (hsz : es.length ≤ 1000) :
    Ev w 4 (dictPut d hs (.int i t) (.str x tv)) (st (L ++ dO es ep :: r) k os) p () (st (L ++ dO (es ++ [⟨hs, .int i t, .str x tv⟩]) (ep + 1) :: r) k os) p := by
  unfold dictPut
  exact Ev.bind' (n := 1) (n' := 3) (a := none) (ev_find hd hn) (ev_upd hd h28 hsz)
end
end Mine.Head
end
noncomputable section
open PySem PySem.W PyProof.Rows
set_option maxRecDepth 100000
namespace Mine.Head
def vS (q : Pos) (x : Str) : Sem Value := do let x ← mkText x; standAt q; pure x
def pr (q : Pos) (x : Int × Str) : Sem Value × Sem Value := (mkInt x.1, vS q x.2)
def ents : Nat → List (Int × Str) → List DictEntry
  | _, [] => []
  | k, x :: l => ⟨x.1, .int x.1 k, .str x.2 (k + 1)⟩ :: ents (k + 3) l
def okInt (i : Int) : Prop := rawHash i = i ∧ 0 ≤ i ∧ i < 2 ^ 63
def fresh_ (es : List DictEntry) (l : List (Int × Str)) : Prop := ∀ e ∈ es, ∀ x ∈ l, e.hash ≠ x.1
def apart (l : List (Int × Str)) : Prop := l.Pairwise (fun x y => x.1 ≠ y.1)
theorem fresh_next {es : List DictEntry} {x : Int × Str} {l : List (Int × Str)} {t t' : Value} (h : fresh_ es (x :: l)) (ha : apart (x :: l)) : fresh_ (es ++ [⟨x.1, t, t'⟩]) l := fun e he y hy => by
  rcases List.mem_append.mp he with he | he
  · exact h e he y (.tail _ hy)
  · obtain rfl := List.mem_singleton.mp he
    exact (List.pairwise_cons.mp ha).1 y hy
section
variable {w : World} {q : Pos} {L : List Obj} {os : OsState} {d : Addr}
theorem ev_k {s : Shared} (i : Int) : Ev w 1 (mkInt i) s q (.int i s.toks) { s with toks := s.toks + 1 } q := Ev.bind' (n := 1) (n' := 0) Ev.fresh Ev.pure
theorem ev_v {s : Shared} (x : Str) : Ev w 2 (vS q x) s q (.str x s.toks) { s with toks := s.toks + 1 } q :=
  Ev.bind' (n := 1) (n' := 1) (a := .str x s.toks) (Ev.bind' (n := 1) (n' := 0) Ev.fresh Ev.pure) (Ev.bind' (n := 1) (n' := 0) Ev.at Ev.pure)
theorem ev_loop (body : Sem Value × Sem Value → PUnit → Sem (ForInStep PUnit)) (hb : ∀ x, body x ⟨⟩ = (do let kv ← x.1; let vv ← holding [kv] x.2; holding [kv, vv] (dictSet d kv vv); pure (.yield ⟨⟩))) (hd : d = L.length) (h28 : 28 ≤ d) :
    ∀ (l : List (Int × Str)) (es : List DictEntry) (ep k : Nat), (∀ x ∈ l, okInt x.1) → fresh_ es l → apart l → es.length + l.length ≤ 1000 →
    Ev w (13 * l.length) (forIn (l.map (pr q)) PUnit.unit body) (st (L ++ [dO es ep]) k os) q PUnit.unit (st (L ++ [dO (es ++ ents k l) (ep + l.length)]) (k + 3 * l.length) os) q
  | [], es, ep, k, _, _, _, _ => by
    simp only [List.map_nil, List.forIn_nil, ents, List.append_nil]
    exact Ev.pure
  | x :: l, es, ep, k, ho, hf, ha, hl => by
    rw [List.map_cons, List.forIn_cons, hb, show 13 * (x :: l).length = 13 + 13 * l.length by simp; omega]
    obtain ⟨o1, o2, o3⟩ := ho x (.head _)
    refine Ev.bind' (a := .yield PUnit.unit) (s' := st (L ++ [dO (es ++ [⟨x.1, .int x.1 k, .str x.2 (k + 1)⟩]) (ep + 1)]) (k + 3) os) (p' := q) ?_ ?_
    · refine Ev.bind' (n := 1) (n' := 12) (ev_k x.1) (Ev.bind' (n := 2) (n' := 10) (Ev.holding (ev_v x.2)) (Ev.bind' (n := 10) (n' := 0) (a := ()) (Ev.holding ?_) Ev.pure))
      exact ev_set (k := k + 2) hd h28 o1 o2 o3 (fun e he => hf e he x (.head _)) (by simp at hl; omega)
    · have := ev_loop body hb hd h28 l (es ++ [⟨x.1, .int x.1 k, .str x.2 (k + 1)⟩]) (ep + 1) (k + 3) (fun y hy => ho y (.tail _ hy)) (fresh_next hf ha) (List.pairwise_cons.mp ha).2 (by simp at hl ⊢; omega)
      rw [List.append_assoc] at this
      rw [show ep + (x :: l).length = ep + 1 + l.length by simp; omega, show k + 3 * (x :: l).length = k + 3 + 3 * l.length by simp; omega]
      exact this
theorem ev_alloc : Ev w 1 (PySem.alloc { cls := .type "dict", data := .dict #[] }) (st L k os) q L.length (st (L ++ [dO [] 0]) k os) q := by
  have e1 : ({ (st L k os) with heap := (st L k os).heap.push { cls := .type "dict", data := .dict #[] } } : Shared) = st (L ++ [dO [] 0]) k os := by
    show Shared.mk ((hp L).push _) _ _ _ _ = _
    rw [hp_push]; rfl
  have e2 : (st L k os).heap.objs.size = L.length := hp_size
  have := Ev.alloc (w := w) (s := st L k os) (p := q) (o := { cls := .type "dict", data := .dict #[] })
  rw [e1, e2] at this
  exact this
/-- a run of more than fifteen pairs -/
theorem ev_sub {l : List (Int × Str)} {k : Nat} (h28 : 28 ≤ L.length) (ho : ∀ x ∈ l, okInt x.1) (ha : apart l) (h1 : 15 < l.length) (h2 : l.length ≤ 1000) :
    Ev w (2 + 13 * l.length) (subDict (l.map (pr q))) (st L k os) q L.length (st (L ++ [dO (ents k l) l.length]) (k + 3 * l.length) os) q := by
  unfold subDict
  rw [show 2 + 13 * l.length = 1 + (1 + 13 * l.length) by omega]
  refine Ev.bind' (n := 1) ev_alloc (Ev.bind' (n := 1 + 13 * l.length) (n' := 0) (a := ()) (Ev.holding ?_) Ev.pure)
  rw [if_neg (by rw [List.length_map]; omega)]
  refine Ev.bind' (n := 1) Ev.rule ?_
  refine Ev.bind' (n' := 0) (a := PUnit.unit) ?_ Ev.pure
  have := fun body hb => ev_loop (w := w) (q := q) (L := L) (os := os) (d := L.length) body hb rfl h28 l [] 0 k ho (fun e he => by cases he) ha (by simpa using h2)
  simp only [List.nil_append, Nat.zero_add] at this
  exact this _ fun x => rfl
/-- a run of few pairs: all values first -/
def vals : Nat → List (Int × Str) → List (Value × Value)
  | _, [] => []
  | k, x :: l => (.int x.1 k, .str x.2 (k + 1)) :: vals (k + 2) l
def entsB : Nat → List (Int × Str) → List DictEntry
  | _, [] => []
  | k, x :: l => ⟨x.1, .int x.1 k, .str x.2 (k + 1)⟩ :: entsB (k + 2) l
theorem ev_vals {L : List Obj} : ∀ (l : List (Int × Str)) (k : Nat), Ev w (3 * l.length) (evalPairs (l.map (pr q))) (st L k os) q (vals k l) (st L (k + 2 * l.length) os) q
  | [], k => Ev.pure
  | x :: l, k => by
    rw [show 3 * (x :: l).length = 1 + (2 + (3 * l.length + 0)) by simp; omega, show k + 2 * (x :: l).length = k + 2 + 2 * l.length by simp; omega]
    exact Ev.bind' (n := 1) (ev_k x.1) (Ev.bind' (n := 2) (Ev.holding (ev_v x.2)) (Ev.bind' (n' := 0) (Ev.holding (ev_vals l (k + 2))) Ev.pure))
theorem ev_loopB (body : Value × Value → PUnit → Sem (ForInStep PUnit)) (hb : ∀ x, body x ⟨⟩ = (do dictSet d x.1 x.2; pure (.yield ⟨⟩))) (hd : d = L.length) (h28 : 28 ≤ d) :
    ∀ (l : List (Int × Str)) (es : List DictEntry) (ep k j : Nat), (∀ x ∈ l, okInt x.1) → fresh_ es l → apart l → es.length + l.length ≤ 1000 →
    Ev w (10 * l.length) (forIn (vals j l) PUnit.unit body) (st (L ++ [dO es ep]) k os) q PUnit.unit (st (L ++ [dO (es ++ entsB j l) (ep + l.length)]) (k + l.length) os) q
  | [], es, ep, k, j, _, _, _, _ => by
    simp only [vals, List.forIn_nil, entsB, List.append_nil]
    exact Ev.pure
  | x :: l, es, ep, k, j, ho, hf, ha, hl => by
    rw [vals, List.forIn_cons, hb, show 10 * (x :: l).length = 10 + 10 * l.length by simp; omega]
    obtain ⟨o1, o2, o3⟩ := ho x (.head _)
    refine Ev.bind' (a := .yield PUnit.unit) (s' := st (L ++ [dO (es ++ [⟨x.1, .int x.1 j, .str x.2 (j + 1)⟩]) (ep + 1)]) (k + 1) os) (p' := q) ?_ ?_
    · refine Ev.bind' (n := 10) (n' := 0) (a := ()) ?_ Ev.pure
      exact ev_set hd h28 o1 o2 o3 (fun e he => hf e he x (.head _)) (by simp at hl; omega)
    · have := ev_loopB body hb hd h28 l (es ++ [⟨x.1, .int x.1 j, .str x.2 (j + 1)⟩]) (ep + 1) (k + 1) (j + 2) (fun y hy => ho y (.tail _ hy)) (fresh_next hf ha) (List.pairwise_cons.mp ha).2 (by simp at hl ⊢; omega)
      rw [List.append_assoc] at this
      rw [show ep + (x :: l).length = ep + 1 + l.length by simp; omega, show k + (x :: l).length = k + 1 + l.length by simp; omega]
      exact this
theorem ev_subB {l : List (Int × Str)} {k : Nat} (h28 : 28 ≤ L.length) (ho : ∀ x ∈ l, okInt x.1) (ha : apart l) (h1 : l.length ≤ 15) :
    Ev w (1 + 13 * l.length) (subDict (l.map (pr q))) (st L k os) q L.length (st (L ++ [dO (entsB k l) l.length]) (k + 3 * l.length) os) q := by
  unfold subDict
  refine Ev.bind' (n := 1) ev_alloc (Ev.bind' (n := 13 * l.length) (n' := 0) (a := ()) (Ev.holding ?_) Ev.pure)
  rw [if_pos (by rw [List.length_map]; omega), show 13 * l.length = 3 * l.length + 10 * l.length by omega]
  refine Ev.bind' (ev_vals l k) (Ev.holding ?_)
  rw [show k + 3 * l.length = k + 2 * l.length + l.length by omega]
  refine Ev.bind' (n' := 0) (a := PUnit.unit) ?_ Ev.pure
  have := fun body hb => ev_loopB (w := w) (q := q) (L := L) (os := os) (d := L.length) body hb rfl h28 l [] 0 (k + 2 * l.length) k ho (fun e he => by cases he) ha (by simp; omega)
  simp only [List.nil_append, Nat.zero_add] at this
  exact this _ fun x => rfl
end
end Mine.Head
end
noncomputable section
open PySem PySem.W PyProof.Rows
set_option maxRecDepth 100000
namespace Mine.Head
def plainE (e : DictEntry) : Prop := ∃ i t x tv, e = ⟨e.hash, .int i t, .str x tv⟩
section
variable {w : World} {q : Pos} {L R : List Obj} {os : OsState} {d a : Addr} {es se : List DictEntry} {ep sep k : Nat}
abbrev two (L R : List Obj) (es se : List DictEntry) (ep sep k : Nat) (os : OsState) : Shared := st (L ++ dO es ep :: (R ++ [dO se sep])) k os
theorem two_eq : two L R es se ep sep k os = st ((L ++ dO es ep :: R) ++ dO se sep :: []) k os := by simp [two]
theorem ev_two {α : Type} {n : Nat} {m : Sem α} {x : α} (h : Ev w n m (st ((L ++ dO es ep :: R) ++ dO se sep :: []) k os) q x (st ((L ++ dO es ep :: R) ++ dO se sep :: []) k os) q) :
    Ev w n m (two L R es se ep sep k os) q x (two L R es se ep sep k os) q := by rw [two_eq]; exact h
theorem ev_mloop (hd : d = L.length) (h28 : 28 ≤ d) (ha : a = (L ++ dO es ep :: R).length) (hp : ∀ e ∈ se, plainE e) (hpw : se.Pairwise (fun x y => x.hash ≠ y.hash)) (body : Nat → PUnit → Sem (ForInStep PUnit))
    (hb : ∀ i, body i ⟨⟩ = (do
      match (← dictEntries a)[i]? with
      | some e =>
        holding [e.key, e.val] (dictPut d e.hash e.key e.val)
        if ((← dictEpoch a) != sep) = true then (do let _ ← (unsupported "dict.changed-during-merge" : Sem PUnit); pure (.yield ⟨⟩)) else pure (.yield ⟨⟩)
      | _ => unsupported "dict.changed-during-merge")) :
    ∀ (n i : Nat) (es : List DictEntry) (ep : Nat), i + n = se.length → a = (L ++ dO es ep :: R).length → (∀ e ∈ es, ∀ e' ∈ se.drop i, e.hash ≠ e'.hash) → es.length + n ≤ 1000 →
    Ev w (6 * n) (forIn (List.range' i n) PUnit.unit body) (two L R es se ep sep k os) q PUnit.unit (two L R (es ++ se.drop i) se (ep + n) sep k os) q
  | 0, i, es, ep, hi, _, _, _ => by
    rw [List.drop_of_length_le (by omega)]
    simp only [List.range'_zero, List.forIn_nil, List.append_nil]
    exact Ev.pure
  | n + 1, i, es, ep, hi, ha', hf, hl => by
    have hlt : i < se.length := by omega
    have hdrop : se.drop i = se[i] :: se.drop (i + 1) := List.drop_eq_getElem_cons hlt
    rw [List.range'_succ, List.forIn_cons, hb, show 6 * (n + 1) = 6 + 6 * n by omega]
    refine Ev.bind' (a := .yield PUnit.unit) (s' := two L R (es ++ [se[i]]) se (ep + 1) sep k os) (p' := q) ?_ ?_
    · refine Ev.bind' (n := 1) (n' := 5) (ev_two (ev_entries ha')) ?_
      have : se.toArray[i]? = some se[i] := by simp [hlt]
      rw [this]
      dsimp only
      obtain ⟨i', t, x, tv, he⟩ := hp se[i] (List.getElem_mem hlt)
      refine Ev.bind' (n := 4) (n' := 1) (a := ()) (s' := two L R (es ++ [se[i]]) se (ep + 1) sep k os) (p' := q) (Ev.holding ?_) ?_
      · rw [he]
        exact ev_put hd h28 (fun e hm => hf e hm se[i] (by rw [hdrop]; exact .head _)) (by omega)
      · refine Ev.bind' (n := 1) (n' := 0) (ev_two (ev_epoch (by rw [ha']; simp))) ?_
        rw [if_neg (by simp)]
        exact Ev.pure
    · have := ev_mloop hd h28 ha hp hpw body hb n (i + 1) (es ++ [se[i]]) (ep + 1) (by omega) (by rw [ha']; simp) (fun e hm e' he' => by
        rcases List.mem_append.mp hm with hm | hm
        · exact hf e hm e' (by rw [hdrop]; exact .tail _ he')
        · obtain rfl := List.mem_singleton.mp hm
          have := hpw.drop (i := i)
          rw [hdrop] at this
          exact (List.pairwise_cons.mp this).1 e' he') (by simp; omega)
      rw [List.append_assoc, List.singleton_append, ← hdrop, show ep + 1 + n = ep + (n + 1) by omega] at this
      exact this
theorem sub_dict : isSubtype (.type "dict") (.type "dict") = Sem.pure true := by kernel_rfl
theorem look_iter : typeLookup (.type "dict") "__iter__" = Sem.pure (some (.builtin "dict.__iter__")) := by kernel_rfl
theorem ev_type (ha : a = L.length) {r : List Obj} : Ev w 1 (typeOf (.ref a)) (st (L ++ dO se sep :: r) k os) q (.type "dict") (st (L ++ dO se sep :: r) k os) q :=
  Ev.bind' (n := 1) (n' := 0) (Ev.load (st_get ha)) Ev.pure
theorem ev_merge (hd : d = L.length) (h28 : 28 ≤ d) (ha : a = (L ++ dO es ep :: R).length) (hp : ∀ e ∈ se, plainE e) (hpw : se.Pairwise (fun x y => x.hash ≠ y.hash)) (hne : es ≠ []) (hf : ∀ e ∈ es, ∀ e' ∈ se, e.hash ≠ e'.hash) (hl : es.length + se.length ≤ 1000) :
    Ev w (5 + 6 * se.length) (mergeMapping d (.ref a) false) (two L R es se ep sep k os) q () (two L R (es ++ se) se (ep + se.length) sep k os) q := by
  unfold mergeMapping isInstance specialOf
  rw [show 5 + 6 * se.length = 1 + (1 + (1 + (1 + (1 + 6 * se.length)))) by omega]
  have h1 : (a == sysModules) = false := by
    have : sysModules < 28 := by decide
    have : d < a := by rw [ha, hd]; simp
    exact beq_eq_false_iff_ne.mpr (by show a ≠ sysModules; exact Nat.ne_of_gt (Nat.lt_trans (Nat.lt_of_lt_of_le ‹_› h28) ‹_›))
  refine Ev.bind' (n := 1) (a := true) (s' := two L R es se ep sep k os) (p' := q) (Ev.bind' (n := 1) (n' := 0) (ev_two (ev_type ha)) (by rw [sub_dict]; exact Ev.pure)) ?_
  rw [if_pos rfl]
  refine Ev.bind' (n := 1) (a := some (.builtin "dict.__iter__")) (s' := two L R es se ep sep k os) (p' := q) (Ev.bind' (n := 1) (n' := 0) (ev_two (ev_type ha)) (by rw [look_iter]; exact Ev.pure)) ?_
  have h2 : (some (Value.builtin "dict.__iter__") == some (Value.builtin "dict.__iter__")) = true := by kernel_rfl
  rw [h2]
  refine Ev.pbind ?_
  · dsimp only
    rw [if_neg (by rw [h1]; exact Bool.false_ne_true)]
    refine Ev.bind' (n := 1) (ev_entries hd) ?_
    rw [if_neg (by simpa using hne)]
    refine Ev.bind' (n := 1) (ev_two (ev_entries ha)) (Ev.bind' (n := 1) (n' := 6 * se.length) (ev_two (ev_epoch ha)) ?_)
    refine Ev.bind' (n' := 0) (a := PUnit.unit) ?_ Ev.pure
    have := fun body hb => ev_mloop (w := w) (q := q) (os := os) (k := k) (sep := sep) hd h28 ha hp hpw body hb se.length 0 es ep (by omega) ha (by simpa using hf) hl
    simp only [List.drop_zero] at this
    rw [show se.toArray.size = se.length by simp, List.range_eq_range']
    exact this _ fun i => rfl
end
end Mine.Head
end
noncomputable section
open PySem PySem.W PyProof.Rows
set_option maxRecDepth 100000
namespace Mine.Head
abbrev SV := Sem Value × Sem Value
def it (x : SV) : Option (Sem Value) × Sem Value := (some x.1, x.2)
section
variable {w : World} {q : Pos} {os : OsState}
section
variable {flush : List SV → Option Addr → Sem (Option Addr)} {body : Option (Sem Value) × Sem Value → Option Addr × List SV → Sem (ForInStep (Option Addr × List SV))}
  (hb : ∀ x main run, body (it x) (main, run) = if ((run ++ [x]).length == 17) = true then (do let main ← flush (run ++ [x]) main; pure (.yield (main, []))) else pure (.yield (main, run ++ [x])))
include hb
theorem ev_chunk {n n' : Nat} {s s' s'' : Shared} {p p' p'' : Pos} {main m' : Option Addr} {rest : List SV} {r : Option Addr × List SV} :
    ∀ (c run : List SV), c ≠ [] → run.length + c.length = 17 → Ev w n (flush (run ++ c) main) s p m' s' p' → Ev w n' (forIn (rest.map it) (m', []) body) s' p' r s'' p'' →
      Ev w (n + n') (forIn ((c ++ rest).map it) (main, run) body) s p r s'' p''
  | [x], run, _, hl, h, h' => by
    rw [List.cons_append, List.nil_append, List.map_cons, List.forIn_cons, hb, if_pos (by simpa using hl)]
    refine Ev.bind' (n := n) (n' := n') (a := (ForInStep.yield (m', []) : ForInStep (Option Addr × List SV))) (s' := s') (p' := p') ?_ h'
    exact Ev.bind' (n := n) (n' := 0) h Ev.pure
  | x :: y :: c, run, _, hl, h, h' => by
    rw [List.cons_append, List.map_cons, List.forIn_cons, hb, if_neg (by simp at hl ⊢; omega)]
    have := ev_chunk (y :: c) (run ++ [x]) (by simp) (by simp at hl ⊢; omega) (by simpa using h) h'
    exact Ev.pbind this
theorem ev_part {s : Shared} {p : Pos} {main : Option Addr} : ∀ (c run : List SV), run.length + c.length < 17 → Ev w 0 (forIn (c.map it) (main, run) body) s p (main, run ++ c) s p
  | [], run, _ => by rw [List.map_nil, List.forIn_nil, List.append_nil]; exact Ev.pure
  | x :: c, run, hl => by
    rw [List.map_cons, List.forIn_cons, hb, if_neg (by simp at hl ⊢; omega)]
    have := ev_part c (run ++ [x]) (by simp at hl ⊢; omega) (s := s) (p := p) (main := main)
    rw [List.append_assoc] at this
    exact Ev.pbind this
end
/-- the objects that the runs of seventeen leave -/
def subsOf : Nat → Nat → List (Int × Str) → List Obj
  | 0, _, _ => []
  | m + 1, k, l => dO (ents k (l.take 17)) 17 :: subsOf m (k + 51) (l.drop 17)
theorem ents_append : ∀ (a b : List (Int × Str)) (k : Nat), ents k (a ++ b) = ents k a ++ ents (k + 3 * a.length) b
  | [], b, k => by simp [ents]
  | x :: a, b, k => by simp only [List.cons_append, ents, ents_append a b, List.length_cons]; rw [show k + 3 + 3 * a.length = k + 3 * (a.length + 1) by omega]
theorem ents_length : ∀ (a : List (Int × Str)) (k : Nat), (ents k a).length = a.length
  | [], _ => rfl
  | x :: a, k => by simp [ents, ents_length a]
theorem entsB_length : ∀ (a : List (Int × Str)) (k : Nat), (entsB k a).length = a.length
  | [], _ => rfl
  | x :: a, k => by simp [entsB, entsB_length a]
theorem ents_hash {e : DictEntry} : ∀ {a : List (Int × Str)} {k : Nat}, e ∈ ents k a → plainE e ∧ ∃ x ∈ a, e.hash = x.1
  | x :: a, k, h => by
    rcases List.mem_cons.mp h with rfl | h
    · exact ⟨⟨_, _, _, _, rfl⟩, x, .head _, rfl⟩
    · obtain ⟨h1, y, h2, h3⟩ := ents_hash h
      exact ⟨h1, y, .tail _ h2, h3⟩
theorem entsB_hash {e : DictEntry} : ∀ {a : List (Int × Str)} {k : Nat}, e ∈ entsB k a → plainE e ∧ ∃ x ∈ a, e.hash = x.1
  | x :: a, k, h => by
    rcases List.mem_cons.mp h with rfl | h
    · exact ⟨⟨_, _, _, _, rfl⟩, x, .head _, rfl⟩
    · obtain ⟨h1, y, h2, h3⟩ := entsB_hash h
      exact ⟨h1, y, .tail _ h2, h3⟩
theorem ents_apart : ∀ {a : List (Int × Str)} {k : Nat}, apart a → (ents k a).Pairwise (fun x y => x.hash ≠ y.hash)
  | [], _, _ => .nil
  | x :: a, k, h => .cons (fun e he => by
      obtain ⟨_, y, h2, h3⟩ := ents_hash he
      show x.1 ≠ e.hash
      rw [h3]; exact (List.pairwise_cons.mp h).1 y h2) (ents_apart (List.pairwise_cons.mp h).2)
theorem entsB_apart : ∀ {a : List (Int × Str)} {k : Nat}, apart a → (entsB k a).Pairwise (fun x y => x.hash ≠ y.hash)
  | [], _, _ => .nil
  | x :: a, k, h => .cons (fun e he => by
      obtain ⟨_, y, h2, h3⟩ := entsB_hash he
      show x.1 ≠ e.hash
      rw [h3]; exact (List.pairwise_cons.mp h).1 y h2) (entsB_apart (List.pairwise_cons.mp h).2)
section
variable {L : List Obj} {d : Addr} {es : List DictEntry} {ep k : Nat}
/-- a later run: its dict made, then laid into the first -/
theorem ev_later {S : List Obj} {n : Nat} {l : List (Int × Str)} {se : List DictEntry} (hd : d = L.length) (h28 : 28 ≤ d) (hne : es ≠ []) (hse : se.length = l.length) (hp : ∀ e ∈ se, plainE e ∧ ∃ x ∈ l, e.hash = x.1) (hpw : se.Pairwise (fun x y => x.hash ≠ y.hash))
    (hf : fresh_ es l) (hl : es.length + l.length ≤ 1000) (hR : Value → Value → Sem Unit)
    (hs : Ev w n (subDict (l.map (pr q))) (st (L ++ dO es ep :: S) k os) q (L ++ dO es ep :: S).length (st ((L ++ dO es ep :: S) ++ [dO se l.length]) (k + 3 * l.length) os) q) :
    Ev w (n + (5 + 6 * l.length)) (do
      let sub ← holding [.ref d] (subDict (l.map (pr q)))
      (holding [.ref d, .ref sub] (mergeMapping d (.ref sub) false)).onRaise (fun x => hR (.ref d) x)
      pure (some d)) (st (L ++ dO es ep :: S) k os) q (some d) (st (L ++ dO (es ++ se) (ep + l.length) :: (S ++ [dO se l.length])) (k + 3 * l.length) os) q := by
  refine Ev.bind' (Ev.holding hs) (Ev.bind' (n := 5 + 6 * l.length) (n' := 0) (a := ()) (Ev.onRaise (Ev.holding ?_)) Ev.pure)
  have := ev_merge (w := w) (q := q) (os := os) (L := L) (R := S) (ep := ep) (sep := l.length) (k := k + 3 * l.length) hd h28 rfl (fun e he => (hp e he).1) hpw hne (fun e he e' he' => by
    obtain ⟨_, x, h1, h2⟩ := hp e' he'
    rw [h2]; exact hf e he x h1) (by omega)
  rw [two_eq, hse] at this
  rw [List.append_assoc] at this ⊢
  exact this
end
end
end Mine.Head
end
noncomputable section
open PySem PySem.W PyProof.Rows
set_option maxRecDepth 100000
namespace Mine.Head
theorem apart_take {l : List (Int × Str)} (n : Nat) (h : apart l) : apart (l.take n) := h.sublist (List.take_sublist _ _)
theorem apart_drop {l : List (Int × Str)} (n : Nat) (h : apart l) : apart (l.drop n) := h.sublist (List.drop_sublist _ _)
theorem apart_cross {l : List (Int × Str)} (n : Nat) (h : apart l) : ∀ x ∈ l.take n, ∀ y ∈ l.drop n, x.1 ≠ y.1 := by
  have : apart (l.take n ++ l.drop n) := by rw [List.take_append_drop]; exact h
  exact (List.pairwise_append.mp this).2.2
section
variable {w : World} {q : Pos} {os : OsState} {L : List Obj} {d : Addr}
  {flush : List SV → Option Addr → Sem (Option Addr)} {body : Option (Sem Value) × Sem Value → Option Addr × List SV → Sem (ForInStep (Option Addr × List SV))} {hR : Value → Value → Sem Unit}
  (hb : ∀ x main run, body (it x) (main, run) = if ((run ++ [x]).length == 17) = true then (do let main ← flush (run ++ [x]) main; pure (.yield (main, []))) else pure (.yield (main, run ++ [x])))
  (hfl : ∀ (x : SV) run d, flush (x :: run) (some d) = (do
      let sub ← holding [.ref d] (subDict (x :: run))
      (holding [.ref d, .ref sub] (mergeMapping d (.ref sub) false)).onRaise (fun x => hR (.ref d) x)
      pure (some d)))
include hb hfl
theorem ev_all (hd : d = L.length) (h28 : 28 ≤ d) : ∀ (m : Nat) (l : List (Int × Str)) (es : List DictEntry) (ep : Nat) (S : List Obj) (k : Nat), es ≠ [] → (∀ x ∈ l, okInt x.1) → fresh_ es l → apart l → es.length + l.length ≤ 1000 → 17 * m ≤ l.length → l.length < 17 * m + 17 →
    Ev w (330 * m) (forIn ((l.map (pr q)).map it) (some d, []) body) (st (L ++ dO es ep :: S) k os) q (some d, (l.drop (17 * m)).map (pr q)) (st (L ++ dO (es ++ ents k (l.take (17 * m))) (ep + 17 * m) :: (S ++ subsOf m k l)) (k + 51 * m) os) q
  | 0, l, es, ep, S, k, _, _, _, _, _, _, h17 => by
    simp only [Nat.mul_zero, List.drop_zero, List.take_zero, ents, subsOf, List.append_nil, Nat.add_zero]
    exact ev_part hb _ [] (by simp; omega)
  | m + 1, l, es, ep, S, k, hne, ho, hf, ha, hl, h1, h2 => by
    have t17 : (l.take 17).length = 17 := by rw [List.length_take]; omega
    have e1 : (l.map (pr q)) = (l.take 17).map (pr q) ++ (l.drop 17).map (pr q) := by rw [← List.map_append, List.take_append_drop]
    have hfT : fresh_ es (l.take 17) := fun e he x hx => hf e he x (List.mem_of_mem_take hx)
    have step := ev_later (w := w) (q := q) (os := os) (L := L) (d := d) (es := es) (ep := ep) (k := k) (S := S) (l := l.take 17) (se := ents k (l.take 17)) hd h28 hne (ents_length _ _) (fun e he => ents_hash he) (ents_apart (apart_take 17 ha)) hfT (by omega) hR
      (ev_sub (Nat.le_trans h28 (by rw [hd]; simp)) (fun x hx => ho x (List.mem_of_mem_take hx)) (apart_take 17 ha) (by omega) (by omega))
    rw [t17] at step
    have rest := ev_all hd h28 m (l.drop 17) (es ++ ents k (l.take 17)) (ep + 17) (S ++ [dO (ents k (l.take 17)) 17]) (k + 3 * 17) (by simp [hne]) (fun x hx => ho x (List.mem_of_mem_drop hx)) (fun e he x hx => by
      rcases List.mem_append.mp he with he | he
      · exact hf e he x (List.mem_of_mem_drop hx)
      · obtain ⟨_, y, h3, h4⟩ := ents_hash he
        rw [h4]; exact apart_cross 17 ha y h3 x hx) (apart_drop 17 ha) (by simp [ents_length]; omega) (by simp; omega) (by simp; omega)
    rw [e1, show 330 * (m + 1) = 330 + 330 * m by omega]
    have hc : (l.take 17).map (pr q) ≠ [] := by intro q'; rw [List.map_eq_nil_iff] at q'; rw [q'] at t17; cases t17
    refine ev_chunk hb (m' := some d) ((l.take 17).map (pr q)) [] hc (by simp; omega) ?_ ?_ (s' := st (L ++ dO (es ++ ents k (l.take 17)) (ep + 17) :: (S ++ [dO (ents k (l.take 17)) 17])) (k + 3 * 17) os) (p' := q)
    · rw [List.nil_append]
      obtain ⟨x, run, ex⟩ : ∃ x run, (l.take 17).map (pr q) = x :: run := by
        cases h : (l.take 17).map (pr q) with
        | nil => exact absurd h hc
        | cons x run => exact ⟨x, run, rfl⟩
      rw [ex, hfl, ← ex]
      exact step
    · have e2 : l.take (17 * (m + 1)) = l.take 17 ++ (l.drop 17).take (17 * m) := by
        rw [show 17 * (m + 1) = 17 + 17 * m by omega, List.take_add]
      rw [show l.drop (17 * (m + 1)) = (l.drop 17).drop (17 * m) by rw [List.drop_drop]; congr 1; omega, e2, ents_append, t17, subsOf, show ep + 17 * (m + 1) = ep + 17 + 17 * m by omega, show k + 51 * (m + 1) = k + 3 * 17 + 51 * m by omega, ← List.append_assoc,
        show S ++ dO (ents k (l.take 17)) 17 :: subsOf m (k + 51) (l.drop 17) = (S ++ [dO (ents k (l.take 17)) 17]) ++ subsOf m (k + 3 * 17) (l.drop 17) by simp]
      exact rest
end
def lastE (m k : Nat) (l : List (Int × Str)) : List DictEntry := entsB (k + 51 * (m + 1)) (l.drop (17 * (m + 1)))
theorem ev_display {w : World} {q : Pos} {os : OsState} {L : List Obj} (m k : Nat) (l : List (Int × Str)) (h28 : 28 ≤ L.length) (ho : ∀ x ∈ l, okInt x.1) (ha : apart l) (hl : l.length ≤ 1000) (h1 : 17 * (m + 1) < l.length) (h2 : l.length ≤ 17 * (m + 1) + 15) :
    Ev w (330 * (m + 1) + 300) (dictDisplay ((l.map (pr q)).map it)) (st L k os) q (.ref L.length)
      (st (L ++ dO (ents k (l.take (17 * (m + 1))) ++ lastE m k l) l.length :: (subsOf m (k + 51) (l.drop 17) ++ [dO (lastE m k l) (l.length - 17 * (m + 1))])) (k + 3 * l.length) os) q := by
  have t17 : (l.take 17).length = 17 := by rw [List.length_take]; omega
  have e1 : (l.map (pr q)) = (l.take 17).map (pr q) ++ (l.drop 17).map (pr q) := by rw [← List.map_append, List.take_append_drop]
  have hc : (l.take 17).map (pr q) ≠ [] := by intro q'; rw [List.map_eq_nil_iff] at q'; rw [q'] at t17; cases t17
  unfold dictDisplay
  extract_lets flush main0 run0
  dsimp only [main0, run0]
  refine Ev.le (n := (223 + 330 * m) + 300) ?_ (by omega)
  refine Ev.bind' (n := 223 + 330 * m) (n' := 300) (a := (some L.length, (l.drop (17 * (m + 1))).map (pr q)))
    (s' := st (L ++ dO (ents k (l.take (17 * (m + 1)))) (17 * (m + 1)) :: subsOf m (k + 51) (l.drop 17)) (k + 51 * (m + 1)) os) (p' := q) ?_ ?_
  · rw [e1]
    have e2 : l.take (17 * (m + 1)) = l.take 17 ++ (l.drop 17).take (17 * m) := by
      rw [show 17 * (m + 1) = 17 + 17 * m by omega, List.take_add]
    have s1 := ev_sub (w := w) (q := q) (L := L) (os := os) (l := l.take 17) (k := k) h28 (fun x hx => ho x (List.mem_of_mem_take hx)) (apart_take 17 ha) (by omega) (by omega)
    rw [t17] at s1
    obtain ⟨x, run, ex⟩ : ∃ x run, (l.take 17).map (pr q) = x :: run := by
      cases h : (l.take 17).map (pr q) with
      | nil => exact absurd h hc
      | cons x run => exact ⟨x, run, rfl⟩
    refine ev_chunk (flush := flush) ?hb (m' := some L.length) ((l.take 17).map (pr q)) [] hc (by simp; omega) (s' := st (L ++ [dO (ents k (l.take 17)) 17]) (k + 3 * 17) os) (p' := q) ?h1 ?h2
    case hb => exact fun x main run => rfl
    · rw [List.nil_append, ex]
      rw [ex] at s1
      exact Ev.bind' (n := 223) (n' := 0) s1 Ev.pure
    · have := fun body hb => ev_all (w := w) (q := q) (os := os) (L := L) (d := L.length) (flush := flush) (body := body) (hR := fun a x => do let _ ← holding [a, x] (runValue (.builtin "proto.let_go" {})); pure ()) hb (fun x run d => rfl) rfl h28 m (l.drop 17)
        (ents k (l.take 17)) 17 [] (k + 3 * 17) (by intro q'; have := congrArg List.length q'; rw [ents_length, t17] at this; cases this) (fun x hx => ho x (List.mem_of_mem_drop hx)) (fun e he x hx => by
          obtain ⟨_, y, h3, h4⟩ := ents_hash he
          rw [h4]; exact apart_cross 17 ha y h3 x hx) (apart_drop 17 ha) (by simp [ents_length]; omega) (by simp; omega) (by simp; omega)
      rw [show l.drop (17 * (m + 1)) = (l.drop 17).drop (17 * m) by rw [List.drop_drop]; congr 1; omega, e2, ents_append, t17, show 17 * (m + 1) = 17 + 17 * m by omega, show k + 51 * (m + 1) = k + 3 * 17 + 51 * m by omega]
      exact this _ fun x main run => rfl
  · dsimp only
    have hlr : (l.drop (17 * (m + 1))).length = l.length - 17 * (m + 1) := by simp
    have s1 := ev_subB (w := w) (q := q) (L := L ++ dO (ents k (l.take (17 * (m + 1)))) (17 * (m + 1)) :: subsOf m (k + 51) (l.drop 17)) (os := os) (l := l.drop (17 * (m + 1))) (k := k + 51 * (m + 1)) (by simp; omega) (fun x hx => ho x (List.mem_of_mem_drop hx)) (apart_drop _ ha) (by omega)
    obtain ⟨x, run, ex⟩ : ∃ x run, (l.drop (17 * (m + 1))).map (pr q) = x :: run := by
      cases h : (l.drop (17 * (m + 1))).map (pr q) with
      | nil => rw [List.map_eq_nil_iff] at h; rw [h] at hlr; simp at hlr; omega
      | cons x run => exact ⟨x, run, rfl⟩
    have s2 := ev_later (w := w) (q := q) (os := os) (L := L) (d := L.length) (es := ents k (l.take (17 * (m + 1)))) (ep := 17 * (m + 1)) (k := k + 51 * (m + 1)) (S := subsOf m (k + 51) (l.drop 17)) (l := l.drop (17 * (m + 1))) (se := lastE m k l) rfl h28
      (by intro q'; have := congrArg List.length q'; rw [ents_length, List.length_take, List.length_nil] at this; omega) (entsB_length _ _) (fun e he => entsB_hash he) (entsB_apart (apart_drop _ ha)) (fun e he x hx => by
          obtain ⟨_, y, h3, h4⟩ := ents_hash he
          rw [h4]; exact apart_cross _ ha y h3 x hx) (by rw [ents_length, List.length_take]; omega) (fun a x => do let _ ← holding [a, x] (runValue (.builtin "proto.let_go" {})); pure ()) s1
    rw [hlr] at s2
    rw [show 17 * (m + 1) + (l.length - 17 * (m + 1)) = l.length by omega, show k + 51 * (m + 1) + 3 * (l.length - 17 * (m + 1)) = k + 3 * l.length by omega] at s2
    refine Ev.le (n := (1 + 13 * (l.length - 17 * (m + 1)) + (5 + 6 * (l.length - 17 * (m + 1)))) + 0) ?_ (by omega)
    refine Ev.bind' (a := some L.length) ?_ Ev.pure
    rw [ex] at s2 ⊢
    exact s2
end Mine.Head
end
noncomputable section
open PySem PySem.W PyProof.Rows
set_option maxRecDepth 100000
namespace Mine.Head
def inc : Int → List (Int × Str) → Bool
  | _, [] => true
  | a, x :: l => decide (a < x.1) && inc x.1 l
theorem inc_spec : ∀ {l : List (Int × Str)} {a : Int}, inc a l = true → (∀ x ∈ l, a < x.1) ∧ apart l
  | [], _, _ => ⟨fun x h => (by cases h), List.Pairwise.nil⟩
  | x :: l, a, h => by
    obtain ⟨h1, h2⟩ := Bool.and_eq_true_iff.mp h
    obtain ⟨i1, i2⟩ := inc_spec h2
    have h1 := of_decide_eq_true h1
    refine ⟨fun y hy => ?_, .cons (fun y hy => Int.ne_of_lt (i1 y hy)) i2⟩
    rcases List.mem_cons.mp hy with rfl | hy
    · exact h1
    · exact Int.lt_trans h1 (i1 y hy)
theorem b3_inc : inc 0 b3Pairs = true := by decide +kernel
theorem b3_len : b3Pairs.length = 650 := by decide +kernel
theorem b3_small : (b3Pairs.all fun x => decide (x.1 < 1000000)) = true := by decide +kernel
theorem okInt_of {i : Int} (h0 : 0 < i) (h1 : i < 1000000) : okInt i := by
  refine ⟨?_, by omega, by omega⟩
  unfold rawHash
  have e2 : ¬ i < 0 := by omega
  have e3 : (i.natAbs : Int) = i := by omega
  have e4 : (i == -1) = false := by simp; omega
  have e5 : i % ((2 ^ 61 - 1 : Nat) : Int) = i := Int.emod_eq_of_lt (by omega) (by omega)
  simp only [e2, if_false, Int.natCast_emod, e3, e5, e4, Bool.false_eq_true]
theorem b3_ok : ∀ x ∈ b3Pairs, okInt x.1 := fun x hx => okInt_of ((inc_spec b3_inc).1 x hx) (of_decide_eq_true (List.all_eq_true.mp b3_small x hx))
def st8 : Stmt := (sts 8 9).headD (.Pass default)
def dpos : Pos := match st8 with
  | .Assign _ (.Dict _ _ q) _ => q
  | _ => default
def spos : Pos := match st8 with
  | .Assign _ _ q => q
  | _ => default
def tgt : List Expr := match st8 with
  | .Assign t _ _ => t
  | _ => []
def dexp : Expr := match st8 with
  | .Assign _ e _ => e
  | _ => .Name "" default
theorem st8_eq : st8 = .Assign tgt dexp spos := by kernel_rfl
theorem sts8 : sts 8 9 = [st8] := by kernel_rfl
theorem dexp_eq : eval dexp envE = (do standAt dpos; dictDisplay ((b3Pairs.map (pr dpos)).map it)) := by kernel_rfl
theorem solo : swapsWithSole tgt dexp spos.line envE = pure false := by kernel_rfl
def post8 (v : Value) : Sem Flow := do assignStores envE v (← swappedStores tgt dexp envE) ((assignEach tgt envE).map (·.2))
theorem exec8 : exec st8 envE = (standAt spos).bind fun _ => (standAt dpos).bind fun _ => (dictDisplay ((b3Pairs.map (pr dpos)).map it)).bind post8 := by
  rw [st8_eq, arm_exec_Assign, solo, dexp_eq]
  rfl
def tM (P : Params) : BT := (tS9 P).set 3 fun _ => o3S8 P
theorem listM (P : Params) : (tM P).list 106 = (tS8 P).list 67 ++ dO (ents 420 (b3Pairs.take (17 * (37 + 1))) ++ lastE 37 420 b3Pairs) 650 :: (subsOf 37 471 (b3Pairs.drop 17) ++ [dO (lastE 37 420 b3Pairs) 4]) := by kernel_rfl
theorem p4b (w : World) : (fun os => segRunT treeTable P0 w 28 (some (.ref 6)) 1 100 (at_ (tM w.params) 106 2370 os) ⟨(post8 (.ref 67)).wrap doneF deadEnd id id, cE, dpos, [topFrame default]⟩) =
    fun os => some (.next, at_ (tS9 w.params) 106 2371 os, cE, ⟨12, 0, 12, 13⟩) := by
  rw [Fast.te10110043849684766642, Fast.te14364793385576792824]
  kernel_rfl
theorem p4 (w : World) (os : OsState) (N : Nat) (r : Shared) (k : topRun treeTable P0 w 28 (some (.ref 6)) N ⟨absHeap (tS9 w.params) 106 life0, #[], {}, 2371, os⟩ (restOf (sts 9 20 ++ []) envE cE ⟨12, 0, 12, 13⟩ [topFrame default]) = some r) :
    topRun treeTable P0 w 28 (some (.ref 6)) (13000 + N) ⟨absHeap (tS8 w.params) 67 life0, #[], {}, 420, os⟩ (restOf (sts 8 9 ++ (sts 9 20 ++ [])) envE cE ⟨10, 0, 11, 30⟩ [topFrame default]) = some r := by
  obtain ⟨a, ha, hN⟩ := seg_top (res := id) (K' := fun f => match f with | .next => (execs (sts 9 20 ++ []) envE).wrap doneF (leaveH envE) id id | f => doneF f) (H' := leaveH envE) (B := [topFrame default]) rfl 100 (at_ (tM w.params) 106 2370 os).abs ⟨(post8 (.ref 67)).wrap doneF deadEnd id id, cE, dpos, [topFrame default]⟩
    ⟨(post8 (.ref 67)).wrap (fun f => match f with | .next => (execs (sts 9 20 ++ []) envE).wrap doneF (leaveH envE) id id | f => doneF f) (leaveH envE) id id, cE, dpos, [topFrame default]⟩ _ _ _ _ ⟨rfl, rfl, .inl ⟨rfl, rfl, _, rfl, rfl⟩⟩ (segRun_of (congrFun (p4b w) os))
  obtain rfl : a = .next := ha
  have q1 := hN N r k
  have e1 : (at_ (tM w.params) 106 2370 os).abs = st ((tS8 w.params).list 67 ++ dO (ents 420 (b3Pairs.take (17 * (37 + 1))) ++ lastE 37 420 b3Pairs) 650 :: (subsOf 37 471 (b3Pairs.drop 17) ++ [dO (lastE 37 420 b3Pairs) 4])) 2370 os := by
    rw [← listM]; rfl
  rw [e1] at q1
  have hl : ((tS8 w.params).list 67).length = 67 := by kernel_rfl
  have q2 := ev_display (w := w) (q := dpos) (os := os) (L := (tS8 w.params).list 67) 37 420 b3Pairs (by rw [hl]; decide) b3_ok (inc_spec b3_inc).2 (by rw [b3_len]; decide) (by rw [b3_len]; decide) (by rw [b3_len]; decide)
  rw [b3_len, hl] at q2
  have q3 := q2 (fun v => (post8 v).wrap (fun f => match f with | .next => (execs (sts 9 20 ++ []) envE).wrap doneF (leaveH envE) id id | f => doneF f) (leaveH envE) id id) (leaveH envE) id id cE (topFrame default) [] (100 + N) r q1
  have q4 := Ev.at (w := w) (s := st ((tS8 w.params).list 67) 420 os) (p := spos) (q := dpos) (fun _ => _) (leaveH envE) id id cE (topFrame default) [] _ r q3
  have q5 := Ev.at (w := w) (s := st ((tS8 w.params).list 67) 420 os) (p := ⟨10, 0, 11, 30⟩) (q := spos) (fun _ => _) (leaveH envE) id id cE (topFrame default) [] _ r q4
  unfold restOf
  rw [sts8, List.singleton_append, execs_cons_wrap, exec8]
  simp only [Sem.bind_eq_wrap, Sem.wrap_wrap]
  have q6 := topRun_mono 58 _ _ _ _ q5
  rw [show 1 + (1 + (330 * (37 + 1) + 300 + (100 + N))) + 58 = 13000 + N by omega] at q6
  exact q6
end Mine.Head
end
noncomputable section
open PySem PySem.W PyProof.Rows
set_option maxRecDepth 100000
namespace Mine
def KF (P : Params) : Frag := [(0, o0S0 P), (1, o1S0 P), (2, o2S0 P), (3, o3S20 P), (4, o4S0 P), (5, o5S0 P), (6, o6S0 P), (7, o7S0 P), (8, o8S0 P), (9, o9S0 P), (10, o10S0 P), (11, o11S0 P), (12, o12S0 P), (13, o13S0 P), (14, o14S0 P), (15, o15S0 P), (16, o16S0 P), (17, o17S0 P), (18, o18S0 P), (19, o19S0 P), (20, o20S0 P), (21, o21S0 P), (22, o22S0 P), (23, o23S0 P), (24, o24S0 P), (25, o25S0 P), (26, o26S0 P), (27, o27S0 P), (28, o28Sa P), (29, o29S20 P), (30, o30Sa P), (31, o31Sa P), (32, o32S6 P), (33, o33S6 P), (34, o34S6 P), (35, o35S6 P), (36, o36S6 P), (37, o37S6 P), (38, o38S6 P), (39, o39S6 P), (40, o40S6 P), (41, o41S6 P), (42, o42S6 P), (43, o43S6 P), (44, o44S6 P), (45, o45S6 P), (46, o46S6 P), (47, o47S6 P), (48, o48S6 P), (49, o49S7 P), (50, o50S7 P), (51, o51S7 P), (52, o52S7 P), (53, o53S7 P), (54, o54S7 P), (55, o55S7 P), (56, o56S7 P), (57, o57S7 P), (58, o58S7 P), (59, o59S7 P), (60, o60S8 P), (61, o61S8 P), (62, o62S8 P), (63, o63S8 P), (64, o64S8 P), (65, o65S8 P), (66, o66S8 P), (67, b3Obj), (68, b3Chunk 1), (69, b3Chunk 2), (70, b3Chunk 3), (71, b3Chunk 4), (72, b3Chunk 5), (73, b3Chunk 6), (74, b3Chunk 7), (75, b3Chunk 8), (76, b3Chunk 9), (77, b3Chunk 10), (78, b3Chunk 11), (79, b3Chunk 12), (80, b3Chunk 13), (81, b3Chunk 14), (82, b3Chunk 15), (83, b3Chunk 16), (84, b3Chunk 17), (85, b3Chunk 18), (86, b3Chunk 19), (87, b3Chunk 20), (88, b3Chunk 21), (89, b3Chunk 22), (90, b3Chunk 23), (91, b3Chunk 24), (92, b3Chunk 25), (93, b3Chunk 26), (94, b3Chunk 27), (95, b3Chunk 28), (96, b3Chunk 29), (97, b3Chunk 30), (98, b3Chunk 31), (99, b3Chunk 32), (100, b3Chunk 33), (101, b3Chunk 34), (102, b3Chunk 35), (103, b3Chunk 36), (104, b3Chunk 37), (105, b3Chunk 38), (106, o106S20 P), (107, o107S20 P), (108, o108S20 P), (109, o109S20 P), (110, o110S20 P), (111, o111S20 P), (112, o112S20 P), (113, o113S20 P), (114, o114S20 P), (115, o115S20 P), (116, o116S20 P), (117, o117S20 P), (118, o118S20 P), (119, o119S20 P), (120, o120S20 P), (121, o121S20 P), (122, o122S20 P), (123, o123S20 P), (124, o124S20 P), (125, o125S20 P), (126, o126S20 P), (127, o127S20 P), (128, o128S20 P), (129, o129S20 P), (130, o130S20 P), (131, o131S20 P), (132, o132S20 P), (133, o133S20 P), (134, o134S20 P), (135, o135S20 P), (136, o136S20 P), (137, o137S20 P), (138, o138S20 P), (139, o139S20 P), (140, o140S20 P), (141, o141S20 P), (142, o142S20 P), (143, o143S20 P), (144, o144S20 P), (145, o145S20 P), (146, o146S20 P), (147, o147S20 P), (148, o148S20 P), (149, o149S20 P), (150, o150S20 P)]
def asF : List Addr := List.range 151
theorem asF_K (P : Params) : asF = (KF P).map (·.1) := by kernel_rfl
def H0 (P : Params) : Heap := absHeap (tS0 P) 28 life0
def HF (P : Params) : Heap := ⟨((KF P).map (·.2)).toArray, life0⟩
abbrev B0 : List Frame := [topFrame default]
theorem pre0 (w : World) : (fun os => topGo treeTable P0 w 28 (some (.ref 6)) 12 ⟨H0 w.params, #[], {}, 276, os⟩ (topStub P0)) =
    fun os => some (⟨absHeap (tSa w.params) 32 life0, #[], {}, 282, os⟩, ⟨denote treeTable cE, cE, default, B0⟩) := by
  rw [Fast.te15667345088766844465, Fast.te14364793385576792824, Fast.te11892475500146522536]
  kernel_rfl
theorem block0 (w : World) : (fun os => segRun treeTable P0 w 28 (some (.ref 6)) 1 1 ⟨absHeap (tSa w.params) 32 life0, #[], {}, 282, os⟩ (blockOf (behindTheImports P0) envE cE default B0)) =
    fun os => some (.next, ⟨absHeap (tSa w.params) 32 life0, #[], {}, 282, os⟩, cE, default) := by
  rw [Fast.te14374325043358763698, Fast.te14364793385576792824]
  kernel_rfl
theorem body_parts : behindTheImports P0 = sts 0 6 ++ (sts 6 7 ++ (sts 7 8 ++ (sts 8 9 ++ (sts 9 20 ++ [])))) := by kernel_rfl
theorem fin0 (w : World) : (fun os => topRun treeTable P0 w 28 (some (.ref 6)) 2 ⟨absHeap (tS20 w.params) 151 life0, #[], {}, 2435, os⟩ ⟨doneF .next, cE, ⟨54, 0, 78, 70⟩, B0⟩) =
    fun os => some ⟨HF w.params, #[], {}, 2435, os⟩ := by
  rw [Fast.te14082659384304107361, Fast.te14364793385576792824]
  kernel_rfl
theorem run0 (w : World) (os : OsState) : topRun treeTable P0 w 28 (some (.ref 6)) (12 + (1 + (201 + (999 + (30 + (13000 + (243 + 2))))))) ⟨H0 w.params, #[], {}, 276, os⟩ (topStub P0) = some ⟨HF w.params, #[], {}, 2435, os⟩ := by
  refine go_top (congrFun (pre0 w) os) ?_
  refine piece_block (congrFun (block0 w) os) ?_
  rw [body_parts]
  refine piece_app (segRun_of (p1 w os)) ?_
  refine piece_app (segRun_of (congrFun (p2 w) os)) ?_
  refine piece_app (segRun_of (congrFun (p3 w) os)) ?_
  refine Head.p4 w os _ _ ?_
  refine piece_app (segRun_of (congrFun (p5 w) os)) ?_
  exact piece_nil (congrFun (fin0 w) os)
theorem size0 (w : World) : ((H0 w.params).isNs mainGlobals && (#[] : Array GenState).size == 0, (H0 w.params).objs.size, (H0 w.params).nsMap mainGlobals "__annotations__") = (true, 28, some (.ref 6)) := by kernel_rfl
end Mine
end
noncomputable section
open PySem PySem.W PyProof.Rows
set_option maxRecDepth 100000
namespace Mine
def q0 : Program := view P0 [0, 20]
def loose0 : List Str := ["_twin_re_1", "_twin_re_2", "CRLF", "quotedata", "b1_set", "in_table_b1", "b3_exceptions", "map_table_b3", "ENDMARKER", "NT_OFFSET", "ISTERMINAL", "ISEOF", "_law_item", "_law_grown", "_law_pass"]
def hk0 : Hook := kHook KF asF asF_K
def Xt0 (s : Shared) : Bool := xlAt q0 [] s && recOk [] s
theorem look1 (w : World) : (fun os => (staticsOk (importedModules P0.main.body) (H0 w.params) (HF w.params) && namesBound P0 (HF w.params) && gensDone ⟨HF w.params, #[], {}, 2435, os⟩ && laidKept (H0 w.params) (HF w.params))) = fun _ : OsState => true := by kernel_rfl
theorem look3 (w : World) : (fun os => hk0.obs ⟨HF w.params, #[], {}, 2435, os⟩) = fun _ : OsState => hk0.val w := by kernel_rfl
theorem look2 (w : World) : (fun os => openSeen q0 loose0 (importedModules P0.main.body) Xt0 true ⟨HF w.params, #[], {}, 2435, os⟩) = fun _ : OsState => openGood q0 loose0 := by
  rw [Fast.te4187177175401517315]
  kernel_rfl
theorem left0 : LeftO P0 q0 loose0 Xt0 hk0.obs hk0.val 30000 := LeftO.of_pieces open0 size0 run0 (by decide) fun w => by
  funext os
  rw [congrFun (look1 w) os, congrFun (look2 w) os, congrFun (look3 w) os]
end Mine
end
noncomputable section
open PySem PySem.W PyProof.Rows
set_option maxRecDepth 100000
namespace Mine
def lawParts : Arguments × List Stmt × Scope × Pos := match (P0.main.body[20]? : Option Stmt) with
  | some (.FunctionDef _ a b _ _ _ sc _ _ pos) => (a, b, sc, pos)
  | _ => (default, [], default, default)
def dLaw : DefRec := ⟨"law", lawParts.1, lawParts.2.1, lawParts.2.2.1, lawParts.2.2.2⟩
theorem hdef0 : defOf q0 PySem.Challenge.rw_re0094_01.row.name = some (dLaw, []) := by kernel_rfl
theorem hp0 : PySem.Challenge.rw_re0094_01.row.prog.theDef PySem.Challenge.rw_re0094_01.row.name = some (dLaw.params, dLaw.body, dLaw.scope) := by kernel_rfl
theorem hk1 : kwWritten? dLaw.params.kwonlyargs dLaw.params.kw_defaults = some [] := by kernel_rfl
abbrev lw0 : OpenLaw := PySem.Challenge.rw_re0094_01
theorem sd1 : sreFenced lw0.row.prog.main = true := by kernel_rfl
theorem sd2 : ((moduleNames lw0.row.prog.main.body).isEmpty || lookedIntoSs (moduleNames lw0.row.prog.main.body) lw0.row.prog.main.body) = true := by kernel_rfl
theorem sd3 : namesResolve lw0.row.prog = true := by kernel_rfl
theorem sd4 : (lw0.row.prog.boundNames.all fun n => !worldNames.contains n) = true := by kernel_rfl
theorem sd5 : noRoadLSs { strict := !(importedModules lw0.row.prog.main.body).all cThrough.contains, foot := none, bare := (["vars", "dir", "locals"] : List Str).filter (readsOut lw0.row.prog lw0.row.prog.main.body) } lw0.row.prog.main.body = true := by kernel_rfl
theorem sd6 : (namesMeet lw0.row.prog lw0.row.prog.main.body fun _ n => attrL n) = true := by kernel_rfl
theorem saidLooks : looksOpen lw0.row.prog = true := by
  unfold looksOpen
  with_reducible refine look_both ?_ sd6
  with_reducible refine look_both ?_ sd5
  with_reducible refine look_both ?_ sd4
  with_reducible refine look_both ?_ sd3
  with_reducible exact look_both sd1 sd2
theorem saidPart : lw0.row.partSaid = true := by
  unfold OpenRow.partSaid
  iterate 13 (with_reducible refine look_both ?_ (by as_aux_lemma => kernel_rfl))
  with_reducible exact saidLooks
theorem said0 : lw0.wellSaid = true := by
  unfold OpenLaw.wellSaid
  with_reducible refine look_both ?_ ?_
  case refine_2 => kernel_rfl
  with_reducible refine look_both ?_ ?_
  case refine_2 => kernel_rfl
  with_reducible refine look_both ?_ ?_
  case refine_2 => kernel_rfl
  with_reducible refine look_both ?_ ?_
  case refine_2 => kernel_rfl
  with_reducible refine look_both ?_ ?_
  case refine_2 => kernel_rfl
  with_reducible refine look_both ?_ ?_
  case refine_2 => kernel_rfl
  with_reducible refine look_both ?_ ?_
  case refine_2 => kernel_rfl
  with_reducible refine look_both ?_ ?_
  case refine_2 => kernel_rfl
  with_reducible refine look_both ?_ ?_
  case refine_2 => kernel_rfl
  with_reducible refine look_both ?_ ?_
  case refine_2 => kernel_rfl
  with_reducible refine look_both ?_ ?_
  case refine_2 => kernel_rfl
  with_reducible refine look_both ?_ ?_
  case refine_2 => kernel_rfl
  with_reducible refine look_both ?_ ?_
  case refine_2 => kernel_rfl
  with_reducible refine look_both ?_ ?_
  case refine_2 => kernel_rfl
  with_reducible refine look_both ?_ ?_
  case refine_2 => kernel_rfl
  with_reducible refine look_both ?_ ?_
  case refine_2 => kernel_rfl
  with_reducible refine look_both ?_ ?_
  case refine_2 => kernel_rfl
  with_reducible refine look_both ?_ ?_
  case refine_2 => kernel_rfl
  unfold OpenRow.wellSaid
  with_reducible refine look_both ?_ ?_
  case refine_2 => kernel_rfl
  with_reducible refine look_both ?_ ?_
  case refine_2 => kernel_rfl
  with_reducible exact saidPart
set_option maxHeartbeats 4000000 in
theorem top0 (call : WalkO q0 loose0 (XL q0 []) hk0.says PySem.Challenge.rw_re0094_01.row.toRowW dLaw [] fun f vs => PySem.call f vs) : PySem.Challenge.rw_re0094_01.Holds := by
  w_on
  refine holds_law said0 fun said => ?_
  refine PySem.W.holds_open (q := q0) (loose := loose0) (Xt := Xt0) (XP := XL q0 []) (Yf := hk0.obs) (Ya := hk0.val) (YP := hk0.says) (N := 30000) left0 hk0.of hk0.keeps (fun s e => xl_of s (Bool.and_eq_true_iff.mp e).1) XL.keeps hdef0 hp0 hk1 (fun s e => recFacts_of (Bool.and_eq_true_iff.mp e).2) (by rfl) (by assumption) (by decide +kernel) ⟨rfl, rfl, rfl, rfl, rfl, by decide +kernel⟩ ?hw call
  w_witness2
end Mine
end
noncomputable section
open PySem PySem.W PyProof.Rows PySem.Calls
set_option maxRecDepth 100000
namespace Mine

def Post (s : Shared) (P : Value → Heap → Prop) : Result → Shared → Prop := fun r s' =>
  ∃ v h' tk, r = .ok (.ret v) ∧ s' = { s with heap := h', toks := tk } ∧ (∀ b o, s.heap.get? b = some o → h'.get? b = some o) ∧ P v h'
def entF (P : Params) : Array DictEntry := match (o3S20 P).data with | .dict es _ => es | _ => #[]
def mgF (P : Params) (x : Str) : Option Value := nsFind (entF P) x
def entB (P : Params) : Array DictEntry := match (o0S0 P).data with | .dict es _ => es | _ => #[]
def mbF (P : Params) (x : Str) : Option Value := nsFind (entB P) x
def entS (P : Params) : Array DictEntry := match (o2S0 P).data with | .dict es _ => es | _ => #[]
def strKey (v : Value) : Bool := match v with | .str .. => true | _ => false
theorem strKeys_of {es : Array DictEntry} (h : es.toList.all (fun e => strKey e.key) = true) : StrKeys es := fun e he => by
  have := List.all_eq_true.mp h e (Array.mem_toList_iff.mpr he)
  revert this
  cases e.key <;> intro q <;> first | exact ⟨_, _, rfl⟩ | cases q
theorem globalsF {w : World} {h : Heap} (hK : (KF w.params).In h) : h.Ns mainGlobals (mgF w.params) :=
  ⟨o3S20 w.params, _, _, hK _ _ rfl, rfl, strKeys_of (by kernel_rfl), fun _ => rfl⟩
theorem builtinsF {w : World} {h : Heap} (hK : (KF w.params).In h) : h.Ns builtinsNs (mbF w.params) :=
  ⟨o0S0 w.params, _, _, hK _ _ rfl, rfl, strKeys_of (by kernel_rfl), fun _ => rfl⟩
theorem nolimitF {w : World} {h : Heap} (hK : (KF w.params).In h) : h.NoLimit :=
  ⟨fun x => nsFind (entS w.params) x, ⟨o2S0 w.params, _, _, hK _ _ rfl, rfl, strKeys_of (by kernel_rfl), fun _ => rfl⟩, by kernel_rfl⟩
end Mine
end
noncomputable section
open PySem PySem.W PyProof.Rows PySem.Calls
set_option maxRecDepth 100000
namespace Mine
section
variable {w : World} {A : Around} {E : Value → Shared → Prop} {s : Shared} {name : Str} {scope : Scope} {L a : Addr} {cd : Value}
/-- a global name of the text, read in a def -/
theorem gl {x : Str} {pos : Pos} {v : Value} {Q : Value → Shared → Prop} (hK : (KF w.params).In s.heap) (hv : mgF w.params x = some v) (h : Q v s)
    (hk : scope.kind = .function := by rfl) (hl : (envOf name scope L a cd).kindOf x = some .globalImplicit := by rfl) (hd : (x == ("__debug__" : Str)) = false := by decide) :
    wpAny (model P0 w) A (eval (.Name x pos) (envOf name scope L a cd)) Q E s :=
  Name_function_global hk hl (loadGlobal_global (env := envOf name scope L a cd) (globalsF hK) hv h) hd
theorem gb {x : Str} {pos : Pos} {v : Value} {Q : Value → Shared → Prop} (hK : (KF w.params).In s.heap) (hm : mgF w.params x = none) (hv : mbF w.params x = some v) (h : Q v s)
    (hk : scope.kind = .function := by rfl) (hl : (envOf name scope L a cd).kindOf x = some .globalImplicit := by rfl) (hd : (x == ("__debug__" : Str)) = false := by decide) :
    wpAny (model P0 w) A (eval (.Name x pos) (envOf name scope L a cd)) Q E s :=
  Name_function_global hk hl (loadGlobal_builtin (env := envOf name scope L a cd) (globalsF hK) hm (builtinsF hK) hv h) hd
end
theorem c_isterm {w : World} {A : Around} {s : Shared} (hK : (KF w.params).In s.heap) (hd : A.depth < recursionLimit) (x : Int) (t : Tok) :
    codeAny (model P0 w) A (.call (.ref 119) ⟨[.int x t], []⟩) (Post s fun v _ => v = .bool (decide (x < 256))) s := by
  refine call_plain_ret (o := o119S20 w.params) (binds := [("x", .int x t)]) hd (hK _ _ rfl) rfl (nolimitF hK) (codeRec_of hK (by kernel_rfl)) rfl (locs (by rfl)) fun h₁ F => ?_
  refine wpAny_execs_cons (wpAny_Return_some (wpAny_Compare1 (ld F (by rfl) ?_)))
  refine gl (hK.keeps F.keep) (v := .int 256 2383) (by kernel_rfl) (wpAny_lt_int ?_)
  exact ⟨_, _, _, rfl, rfl, F.keep, rfl⟩
theorem c_iseof {w : World} {A : Around} {s : Shared} (hK : (KF w.params).In s.heap) (hd : A.depth < recursionLimit) (x : Int) (t : Tok) :
    codeAny (model P0 w) A (.call (.ref 126) ⟨[.int x t], []⟩) (Post s fun v _ => v = .bool (x == 0)) s := by
  refine call_plain_ret (o := o126S20 w.params) (binds := [("x", .int x t)]) hd (hK _ _ rfl) rfl (nolimitF hK) (codeRec_of hK (by kernel_rfl)) rfl (locs (by rfl)) fun h₁ F => ?_
  refine wpAny_execs_cons (wpAny_Return_some (wpAny_Compare1 (ld F (by rfl) ?_)))
  refine gl (hK.keeps F.keep) (v := .int 0 2381) (by kernel_rfl) (wpAny_eq_int ?_)
  exact ⟨_, _, _, rfl, rfl, F.keep, rfl⟩
end Mine
end
noncomputable section
open PySem PySem.W PyProof.Rows PySem.Calls
set_option maxRecDepth 100000
namespace Mine
def aP : Params := { strHash := fun _ => 0, shareClass := fun _ => 0, mergeTok := id, idOf := fun _ => 0, idOfShared := fun _ _ => 0, followText := fun _ => false, idOfImm := fun _ => 0 }
def setE (P : Params) : List (Int × Value) := match (o56S7 P).data with | .set es _ _ => es.toList | _ => []
def inB1 (c : Int) : Bool := (setE aP).any fun e => Value.isInt c e.2
theorem setE_eq (P : Params) : setE P = setE aP := rfl
theorem setOfF {w : World} {h : Heap} (hK : (KF w.params).In h) : h.SetOf (intKind P0 w) 56 inB1 27 := by
  refine ⟨o56S7 w.params, _, _, _, hK _ _ rfl, ⟨rfl, rfl, rfl⟩, rfl, ?_, fun k => ?_, by decide, by kernel_rfl, by kernel_rfl⟩
  · have : ((setE aP).all fun e => match e.2 with | .int i _ => e.1 == hashInt i | _ => false) = true := by decide +kernel
    intro e he
    have he' : e ∈ setE aP := he
    have := List.all_eq_true.mp this e he'
    revert this
    cases hv : e.2 with
    | int i t => intro q; exact ⟨⟨i, by show Value.isInt i (.int i t) = true; simp [Value.isInt], beq_iff_eq.mp q⟩, rfl⟩
    | _ => intro q; cases q
  · show (setE aP).any _ = true ↔ ∃ e ∈ setE aP, _
    rw [List.any_eq_true]; rfl
theorem c_inb1 {w : World} {A : Around} {s : Shared} (hK : (KF w.params).In s.heap) (hd : A.depth < recursionLimit) (c : Nat) (t : Tok) :
    codeAny (model P0 w) A (.call (.ref 66) ⟨[.str ⟨#[c]⟩ t], []⟩) (Post s fun v _ => v = .bool (inB1 c)) s := by
  refine call_plain_ret (o := o66S8 w.params) (binds := [("code", .str ⟨#[c]⟩ t)]) hd (hK _ _ rfl) rfl (nolimitF hK) (codeRec_of hK (by kernel_rfl)) rfl (locs (by rfl)) fun h₁ F => ?_
  have hK₁ := hK.keeps F.keep
  refine wpAny_execs_cons (wpAny_Return_some (wpAny_Compare1 (Call_ (gb hK₁ (v := .builtin "ord") (by kernel_rfl) (by kernel_rfl) (callWith_builtin1 (args_cons (ld F (by rfl) (args_nil ?_))))))))
  refine P.ord_of_char (gl hK₁ (v := .ref 56) (by kernel_rfl) ?_)
  refine wpAny_inSet_of (knd := intKind P0 w) (k := (c : Int)) (intKind_is P0 w _ _) rfl (setOfF hK₁) ?_
  exact ⟨_, _, _, rfl, rfl, F.keep, rfl⟩

/-- what the table b3_exceptions says of a sign -/
def b3Look (c : Int) : Option Str := (b3Pairs.find? fun x => x.1 == c).map (·.2)
def mapB3 (c : Nat) : Str := (b3Look c).getD (Txt.lower ⟨#[c]⟩)
theorem b3_find (c : Int) : ∀ (l : List (Int × Str)) (n : Nat), (((l.zipIdx n).map b3E).find? fun e => Value.isInt c e.key).map (·.val) = none ∧ (l.find? fun x => x.1 == c) = none ∨
    ∃ x t, (((l.zipIdx n).map b3E).find? fun e => Value.isInt c e.key).map (·.val) = some (.str x t) ∧ (l.find? fun x => x.1 == c).map (·.2) = some x
  | [], _ => .inl ⟨rfl, rfl⟩
  | (i, x) :: l, n => by
    have hk : ∃ tk tv, b3E ((i, x), n) = ⟨i, .int i tk, .str x tv⟩ := by
      unfold b3E; dsimp only; split <;> exact ⟨_, _, rfl⟩
    obtain ⟨tk, tv, hk⟩ := hk
    rw [List.zipIdx_cons, List.map_cons, List.find?_cons, List.find?_cons, hk]
    by_cases h : i = c
    · subst h
      exact .inr ⟨x, tv, by simp [Value.isInt], by simp⟩
    · have h1 : Value.isInt c (.int i tk) = false := by simp [Value.isInt, h]
      have h2 : ((i, x).1 == c) = false := by simp [h]
      dsimp only at h2 ⊢
      rw [h1, h2]
      exact b3_find c l (n + 1)
theorem mapOfF {w : World} {h : Heap} (hK : (KF w.params).In h) : h.MapOf (intKind P0 w) 67 (fun k => findBy Value.isInt b3Entries.toArray k) := by
  refine ⟨b3Obj, b3Entries.toArray, 650, hK _ _ rfl, ⟨rfl, rfl, rfl⟩, rfl, fun e he => ?_, fun k => rfl⟩
  have : (b3Entries.all fun e => match e.key with | .int i _ => e.hash == hashInt i | _ => false) = true := by decide +kernel
  have := List.all_eq_true.mp this e (by simpa using he)
  revert this
  cases hv : e.key with
  | int i t => intro q; exact ⟨i, by show Value.isInt i (.int i t) = true; simp [Value.isInt], beq_iff_eq.mp q⟩
  | _ => intro q; cases q
theorem c_mapb3 {w : World} {A : Around} {s : Shared} (hK : (KF w.params).In s.heap) (hd : A.depth < recursionLimit) (c : Nat) (t : Tok) :
    codeAny (model P0 w) A (.call (.ref 112) ⟨[.str ⟨#[c]⟩ t], []⟩) (Post s fun v _ => ∃ tk, v = .str (mapB3 c) tk) s := by
  refine call_plain_ret (o := o112S20 w.params) (binds := [("code", .str ⟨#[c]⟩ t)]) hd (hK _ _ rfl) rfl (nolimitF hK) (codeRec_of hK (by kernel_rfl)) rfl (locs (by rfl)) fun h₁ F => ?_
  have hK₁ := hK.keeps F.keep
  have hm := mapOfF hK₁
  refine wpAny_execs_cons (wpAny_Assign_Name (MethodCall_ (gl hK₁ (v := .ref 67) (by kernel_rfl) ?_)))
  refine getMethod_builtin hm.typeIs PySem.F.plainAttrs_dict PySem.F.slot_dict_get PySem.F.type_dict_get hm.noDict ?_
  refine callWith_method1 (args_cons (Call_ (gb hK₁ (v := .builtin "ord") (by kernel_rfl) (by kernel_rfl) (callWith_builtin1 (args_cons (ld F (by rfl) (args_nil (P.ord_of_char (args_nil ?_)))))))))
  refine call_meetsIn PySem.F.slot_dict_get hm.typeIs PySem.F.entry_dict_get (PySem.F.args_dict_get_2 _ _) (meets_dict_get (intKind P0 w) 67 (k := (c : Int)) (intKind_is P0 w _ _) (by decide)) ⟨_, hm, ?_⟩
  have hb := b3_find c b3Pairs 0
  have he : (findBy Value.isInt b3Entries.toArray (c : Int)) = (((b3Pairs.zipIdx 0).map b3E).find? fun e => Value.isInt (c : Int) e.key).map (·.val) := by
    unfold findBy; rw [List.find?_toArray]; rfl
  dsimp only
  rw [he]

  refine st F fun h₂ F₂ => ?_
  have hK₂ := hK.keeps F₂.keep
  refine wpAny_execs_cons (wpAny_If (wpAny_isTrue_Compare1 (ld F₂ (by rfl) (wpAny_Constant_none (isNot_none (wpAny_truthy_bool ?_))))))
  rcases hb with ⟨e1, e2⟩ | ⟨x, tv, e1, e2⟩
  · rw [e1]
    refine wpAny_execs_nil (wpAny_execs_cons (wpAny_Return_some (MethodCall_ (ld F₂ (by rfl) (GM.lower (callWith_method0 (SCL.lower (by show 1 ≤ 5592405; decide) fun _ => ?_)))))))
    have e3 : mapB3 c = Txt.lower ⟨#[c]⟩ := by unfold mapB3 b3Look; rw [e2]; rfl
    exact ⟨_, _, _, rfl, rfl, F₂.keep, _, by rw [e3]⟩
  · rw [e1]
    refine wpAny_execs_cons (wpAny_Return_some (ld F₂ (by rfl) ?_))
    have e3 : mapB3 c = x := by unfold mapB3 b3Look; rw [e2]; rfl
    exact ⟨_, _, _, rfl, rfl, F₂.keep, tv, by rw [e3, e1]; rfl⟩
end Mine
end
noncomputable section
open PySem PySem.W PyProof.Rows PySem.Calls
set_option maxRecDepth 100000
namespace Mine
def upd (m : Str → Option Value) (x : Str) (v : Value) : Str → Option Value := fun y => if y = x then some v else m y
theorem upd_eq {m : Str → Option Value} {x : Str} {v : Value} : upd m x v x = some v := if_pos rfl
theorem upd_ne {m : Str → Option Value} {x y : Str} {v : Value} {r : Option Value} (h : m y = r) (n : y ≠ x := by decide) : upd m x v y = r := (if_neg n).trans h
theorem ex_ne {m : Str → Option Value} {x y : Str} {v : Value} {f : Tok → Value} (h : ∃ t, m y = some (f t)) (n : y ≠ x := by decide) : ∃ t, upd m x v y = some (f t) := h.imp fun _ e => upd_ne e n
theorem ex_int {m : Str → Option Value} {x : Str} {i j : Int} {t : Tok} (h : i = j) : ∃ t', upd m x (.int i t) x = some (.int j t') := ⟨t, by rw [← h]; exact upd_eq⟩
theorem ex_str {m : Str → Option Value} {x : Str} {i j : Str} {t : Tok} (h : i = j) : ∃ t', upd m x (.str i t) x = some (.str j t') := ⟨t, by rw [← h]; exact upd_eq⟩
/-- the frame of a running def: its locals are m, all of h₀ stands, and so does all of g but the frame's own table -/
structure FX (h₀ g : Heap) (L : Addr) (h : Heap) (m : Str → Option Value) : Prop where
  F : Fr h₀ L h m
  X : ∀ b o, b ≠ L → g.get? b = some o → h.get? b = some o
section
variable {h₀ g g' h h' : Heap} {L : Addr} {m : Str → Option Value}
theorem FX.of (F : Fr h₀ L h m) : FX h₀ h L h m := ⟨F, fun _ _ _ e => e⟩
theorem FX.rebase (f : FX h₀ g L h m) : FX h₀ h L h m := ⟨f.F, fun _ _ _ e => e⟩
theorem FX.trans (f : FX h₀ g L h m) {m'} (f' : FX h₀ h L h' m') : FX h₀ g L h' m' := ⟨f'.F, fun b o n e => f'.X b o n (f.X b o n e)⟩
theorem FX.keeps (f : FX h₀ g L h m) (k : ∀ b o, h.get? b = some o → h'.get? b = some o) : FX h₀ g L h' m :=
  ⟨⟨f.F.ns.keeps k, fun b o e => k b o (f.F.keep b o e), f.F.above⟩, fun b o n e => k b o (f.X b o n e)⟩
theorem FX.push (f : FX h₀ g L h m) (o : Obj) : FX h₀ g L (h.push o) m := f.keeps fun _ _ e => Heap.get?_push_of_some o e
theorem FX.set {m'} (f : FX h₀ g L h m) (hn : h'.Ns L m') (hs : Heap.SameBut L h h') : FX h₀ g L h' m' :=
  ⟨f.F.set hn hs, fun b o n e => (hs.2 b n).trans (f.X b o n e)⟩
end
section
variable {w : World} {A : Around} {E : Value → Shared → Prop} {s : Shared} {name : Str} {scope : Scope} {L a : Addr} {cd : Value} {h₀ g : Heap} {m : Str → Option Value}
theorem stX {x : Str} {v : Value} {Q : Unit → Shared → Prop} (f : FX h₀ g L s.heap m)
    (h : ∀ h', FX h₀ g L h' (upd m x v) → Q () { s with heap := h', toks := s.toks + 1 })
    (hk : scope.kind = .function := by rfl) (hl : (envOf name scope L a cd).kindOf x = some .local := by rfl) :
    wpAny (model P0 w) A (storeName (envOf name scope L a cd) x v) Q E s :=
  wpAny_storeName_local hl f.F.ns (fun h' hn hs => h h' (f.set hn hs))
    (by show (scope.kind == .class || (scope.kind == .module && L != mainGlobals)) = false; rw [hk]; rfl)
/-- a call by a contract -/
theorem callC {f : Addr} {vs : List Value} {P : Value → Heap → Prop} {Q : Value → Shared → Prop} (hc : codeAny (model P0 w) A (.call (.ref f) ⟨vs, []⟩) (Post s P) s)
    (h : ∀ v h' tk, (∀ b o, s.heap.get? b = some o → h'.get? b = some o) → P v h' → Q v { s with heap := h', toks := tk }) : wpAny (model P0 w) A (call (.ref f) vs) Q E s :=
  wpAny_call (codeAny_mono hc fun r s' ⟨v, h', tk, e1, e2, k, p⟩ => by subst e1 e2; exact h v h' tk k p)
/-- a loop over the signs of a text -/
theorem iter_str {x : Str} {t : Tok} {v : Str} {px : Pos} {body : List Stmt} {Q : Flow → Shared → Prop} (hh : A.handled = none) (ha : x.cps.all (· < 128) = true) (f : FX h₀ g L s.heap m)
    (J : Nat → (Str → Option Value) → Prop) (h0 : J 0 m)
    (step : ∀ i c tk m₁ g₁ h₁ k₁, x.cps[i]? = some c → J i m₁ → FX h₀ g₁ L h₁ (upd m₁ v (.str ⟨#[c]⟩ tk)) →
      wpAny (model P0 w) A (execs body (envOf name scope L a cd)) (fun fl s₂ => fl = .next ∧ ∃ h₂ k₂ m₂, s₂ = { s with heap := h₂, toks := k₂ } ∧ FX h₀ g₁ L h₂ m₂ ∧ J (i + 1) m₂) (fun _ _ => False) { s with heap := h₁, toks := k₁ })
    (hQ : ∀ h' k m', FX h₀ g L h' m' → J x.cps.size m' → Q .next { s with heap := h', toks := k })
    (hk : scope.kind = .function := by rfl) (hl : (envOf name scope L a cd).kindOf v = some .local := by rfl) :
    wpAny (model P0 w) A (pyIter (.str x t)) (fun it s₂ => codeAny (model P0 w) A (.forLoop (.Name v px) it body [] (envOf name scope L a cd))
      (fun r s' => match r with | .ok fl => Q fl s' | .error e => cameBackBy (model P0 w) A (envOf name scope L a cd) (fun _ _ => False) e s') s₂) E s := by
  have hp : (scope.kind == .class || (scope.kind == .module && L != mainGlobals)) = false := by rw [hk]; rfl
  refine wpAny_pyIter_ascii ha ?_
  have hIL : s.heap.objs.size ≠ L := Nat.ne_of_gt f.F.ns.lt
  have hltL : L < s.heap.objs.size := f.F.ns.lt
  have hab : h₀.objs.size ≤ L := f.F.above
  have hnew : ∀ b o, h₀.get? b = some o → b ≠ s.heap.objs.size := fun b o e q => by
    have h1 := Heap.lt_size e
    rw [q] at h1
    exact Nat.lt_irrefl _ (Nat.lt_trans h1 (Nat.lt_of_le_of_lt hab hltL))
  refine codeAny_forLoop (fun n s' => ∃ h' tk m' i, s' = { s with heap := h', toks := tk } ∧ h'.IsStrIter s.heap.objs.size "str_ascii_iterator" x t i ∧ FX h₀ g L h' m' ∧ J i m' ∧ i ≤ x.cps.size ∧ n = x.cps.size + 1 - i)
    ?_ (x.cps.size + 1) ⟨_, _, m, 0, rfl, ⟨_, Heap.get?_push_size _ rfl, rfl, rfl⟩, f.push _, h0, Nat.zero_le _, rfl⟩
  rintro n s' ⟨h', tk, m', i, rfl, hit', f', hJ, hi, rfl⟩
  cases hc : x.cps[i]? with
  | none =>
    have hsz : i = x.cps.size := Nat.le_antisymm hi (by simpa using hc)
    refine wpAny_pyNext_ascii_end hh hit' hc fun h₁ he₁ => wpAny_execs_nil ?_
    refine hQ h₁ tk m' ⟨⟨f'.F.ns.extBut he₁ (Ne.symm hIL), fun b o e => he₁ b o (hnew b o e) (f'.F.keep b o e), f'.F.above⟩,
      fun b o nb e => ?_⟩ (hsz ▸ hJ)
    by_cases q : b = s.heap.objs.size
    · exfalso
      have := f.X b o nb e
      rw [q] at this
      exact absurd (Heap.lt_size this) (Nat.lt_irrefl _)
    · exact he₁ b o q (f'.X b o nb e)
  | some c =>
    have hlt : i < x.cps.size := (Array.getElem?_eq_some_iff.mp hc).1
    refine wpAny_pyNext_ascii_item hit' hc fun h₁ hit₁ hs₁ => ?_
    have f₁ : FX h₀ g L h₁ m' := ⟨⟨f'.F.ns.sameBut hs₁ (Ne.symm hIL), fun b o e => (hs₁.2 b (hnew b o e)).trans (f'.F.keep b o e), f'.F.above⟩, fun b o nb e => by
      by_cases q : b = s.heap.objs.size
      · exfalso
        have := f.X b o nb e
        rw [q] at this
        exact absurd (Heap.lt_size this) (Nat.lt_irrefl _)
      · exact (hs₁.2 b q).trans (f'.X b o nb e)⟩
    refine wpAny_assign_Name (wpAny_storeName_local hl f₁.F.ns (fun h₂ hn₂ hs₂ => ?_) hp)
    have f₂ := f₁.rebase.set hn₂ hs₂
    refine wpAny_passesOwn PassesOwn.never (wpAny_mono (step i c tk m' h₁ h₂ _ hc hJ f₂) (fun fl s₃ h₃ => ?_) fun _ _ e => e)
    obtain ⟨rfl, h₃', k₃, m₂, rfl, f₃, hJ₃⟩ := h₃
    refine ⟨x.cps.size + 1 - (i + 1), by omega, h₃', k₃, m₂, i + 1, rfl, ?_, f₁.trans f₃, hJ₃, hlt, rfl⟩
    obtain ⟨oI, e1, e2, e3⟩ := hit₁
    exact ⟨oI, f₃.X _ _ hIL e1, e2, e3⟩
end
end Mine
end
noncomputable section
open PySem PySem.W PyProof.Rows PySem.Calls
set_option maxRecDepth 100000
namespace Mine
open Bbs
def sgn (c : Bool) : Nat := if c then 46 else 10
def enc (l : List Bool) : Str := ⟨(l.map sgn).toArray⟩
theorem enc_append (a b : List Bool) : enc (a ++ b) = enc a ++ enc b := by
  show _ = Str.mk ((a.map sgn).toArray ++ (b.map sgn).toArray)
  unfold enc; simp
theorem enc_length (a : List Bool) : (enc a).length = a.length := by simp [enc, Str.length]
theorem enc_ascii (a : List Bool) : (enc a).cps.all (· < 128) = true := by
  unfold enc
  rw [List.all_toArray, List.all_eq_true]
  intro x hx
  obtain ⟨c, _, rfl⟩ := List.mem_map.mp hx
  cases c <;> decide
theorem nl_eq : Str.ofString "\n" = ⟨#[10]⟩ := by decide +kernel
theorem dot_eq : Str.ofString "." = ⟨#[46]⟩ := by decide +kernel
theorem foldl_nl (n : Nat) : ∀ acc : Array Nat, (List.replicate n #[10]).foldl (· ++ ·) acc = acc ++ ((zs n).map sgn).toArray := by
  induction n with
  | zero => intro acc; simp [zs]
  | succ n ih => intro acc; rw [List.replicate_succ, List.foldl_cons, ih, zs_succ]; simp [sgn]
theorem mul_nl (n : Nat) : Txt.mul (Str.ofString "\n") (n : Int) = enc (zs n) := by
  rw [nl_eq]
  unfold Txt.mul
  by_cases h : (n : Int) < 1
  · rw [if_pos h, show n = 0 by omega]; rfl
  · rw [if_neg h]
    by_cases h1 : n = 1
    · subst h1; rfl
    · have : (((n : Int) == 1) || (Str.length ⟨#[10]⟩ == 0)) = false := by
        have : ((n : Int) == 1) = false := by simp; omega
        rw [this]; rfl
      rw [this]
      simp only [Bool.false_eq_true, if_false, Int.toNat_natCast]
      rw [foldl_nl]; simp [enc]
theorem mulOk_nl (n : Nat) (h : n ≤ 1000) : MulOk (Str.ofString "\n") (n : Int) := mulOk_of 1 1000 (by decide +kernel) (by omega) (by omega) (by decide) (by decide)
theorem take_next {l : List Bool} {i c' : Nat} (h : (enc l).cps[i]? = some c') : ∃ c, c' = sgn c ∧ l.take (i + 1) = l.take i ++ [c] := by
  unfold enc at h
  simp only [List.getElem?_toArray, List.getElem?_map, Option.map_eq_some_iff] at h
  obtain ⟨c, h1, h2⟩ := h
  exact ⟨c, h2.symm, by rw [List.take_add_one, h1]; rfl⟩
theorem fin_next (r : Nat) (p : List Bool) (c : Bool) : fin r 0 (p ++ [c]) = (stp r (fin r 0 p) c).1 := by rw [fin_append]; rfl
theorem tk_next (r : Nat) (p : List Bool) (c : Bool) : tk r 0 (p ++ [c]) = tk r 0 p + (if c = true ∧ fin r 0 p < r then 1 else 0) := by rw [tk_append]; simp [tk]
theorem out_next (r : Nat) (p : List Bool) (c : Bool) : out r 0 (p ++ [c]) = out r 0 p ++ [(stp r (fin r 0 p) c).2] := by rw [out_append]; rfl

structure PassJ (l : List Bool) (r : Nat) (i : Nat) (m : Str → Option Value) : Prop where
  room : ∃ t, m "room" = some (.int r t)
  load : ∃ t, m "load" = some (.int (fin r 0 (l.take i) : Nat) t)
  taken : ∃ t, m "taken" = some (.int (tk r 0 (l.take i) : Nat) t)
  left : ∃ t, m "left" = some (.str (enc (out r 0 (l.take i))) t)

def passBody : List Stmt := match (fnAt 19 0 .none .none 0).body with | .stmts [_, _, _, .For _ _ b _ _, _] => b | _ => []
def passScope : Scope := (fnAt 19 0 .none .none 0).scope
theorem pass_step {w : World} {A : Around} {s : Shared} {h₀ g₁ : Heap} {L : Addr} {m₁ : Str → Option Value} (hK : (KF w.params).In h₀) (hd : A.depth < 901) {l : List Bool} {r i c' : Nat} {tk' : Tok} (hl : l.length ≤ 2000)
    (hc : (enc l).cps[i]? = some c') (J : PassJ l r i m₁) (F : FX h₀ g₁ L s.heap (upd m₁ "box" (.str ⟨#[c']⟩ tk'))) :
    wpAny (model P0 w) A (execs passBody (envOf "_law_pass" passScope L 145 (.ref 144)))
      (fun fl s₂ => fl = .next ∧ ∃ h₂ k₂ m₂, s₂ = { s with heap := h₂, toks := k₂ } ∧ FX h₀ g₁ L h₂ m₂ ∧ PassJ l r (i + 1) m₂) (fun _ _ => False) s := by
  obtain ⟨c, e, hnext⟩ := take_next hc
  obtain ⟨⟨tr, eRoom⟩, ⟨tl, eLoad⟩, ⟨tt, eTaken⟩, ⟨tf, eLeft⟩⟩ := J
  have hK₅ := hK.keeps F.F.keep
  have hlen : (enc (out r 0 (l.take i))).length + 1 ≤ sizeLine := by
    rw [enc_length, out_length, List.length_take]
    have : sizeLine = 16777216 := by decide
    omega
  subst e
  generalize hX : fin r 0 (l.take i) = X at *
  refine wpAny_execs_cons (wpAny_If (wpAny_isTrue_BoolOp (wpAny_allTrue_And_cons (wpAny_isTrue_Compare1 (ld F.F upd_eq (wpAny_Constant_str (eq_str (wpAny_truthy_bool ?_))))))))
  cases c
  · -- an empty box
    rw [show ((⟨#[sgn false]⟩ : Str) == Str.ofString ".") = false by decide +kernel]
    simp only [Bool.false_eq_true, if_false]
    refine wpAny_execs_cons (wpAny_If (wpAny_isTrue_BoolOp (wpAny_allTrue_And_cons (wpAny_isTrue_Compare1 (ld F.F upd_eq (wpAny_Constant_str (eq_str (wpAny_truthy_bool ?_))))))))
    rw [show ((⟨#[sgn false]⟩ : Str) == Str.ofString "\n") = true by decide +kernel]
    simp only [if_true]
    refine wpAny_allTrue_And_cons (wpAny_isTrue_Not (wpAny_isTrue_value (Call_ (gl hK₅ (v := .ref 126) (by kernel_rfl) (callWith_def (o := o126S20 w.params) rfl (args_cons (ld F.F (upd_ne eLoad) (args_nil ⟨hK₅ _ _ rfl, ?_⟩))))))))
    refine callC (c_iseof (by exact hK₅) (Nat.lt_trans hd (by decide)) _ _) ?_
    rintro v h' tk₁ kp rfl
    have F₆ := F.keeps kp
    refine wpAny_truthy_bool ?_
    by_cases hX0 : X = 0
    · rw [show (((X : Nat) : Int) == 0) = true by simp [hX0]]
      simp only [Bool.not_true, Bool.false_eq_true, if_false]
      refine wpAny_execs_cons (wpAny_AugAssign_Name (ldn F₆.F (upd_ne eLeft) (ld F₆.F upd_eq (SBL.iadd (fun t' k _ => stX F₆ fun h₇ F₇ => ?_) hlen))))
      refine wpAny_execs_nil (wpAny_execs_nil (wpAny_execs_nil ⟨rfl, _, _, _, rfl, F₇, ?_⟩))
      refine ⟨ex_ne (ex_ne ⟨_, eRoom⟩), ex_ne (ex_ne ⟨tl, ?_⟩), ex_ne (ex_ne ⟨tt, ?_⟩), ex_str ?_⟩
      · rw [hnext, fin_next, hX, eLoad, hX0]; rfl
      · rw [hnext, tk_next, hX, eTaken]; simp
      · rw [hnext, out_next, hX, enc_append, hX0]; rfl
    · rw [show (((X : Nat) : Int) == 0) = false by simp; omega]
      simp only [Bool.not_false, if_true]
      refine wpAny_allTrue_And_nil ?_
      simp only [if_true]
      refine wpAny_execs_cons (wpAny_AugAssign_Name (ldn F₆.F (upd_ne eLoad) (wpAny_Constant_int (isub_int (stX F₆ fun h₇ F₇ => ?_)))))
      refine wpAny_execs_cons (wpAny_AugAssign_Name (ldn F₇.F (upd_ne (upd_ne eLeft)) (wpAny_Constant_str (SBL.iadd (fun t' k _ => stX F₇ fun h₈ F₈ => ?_) hlen))))
      refine wpAny_execs_nil (wpAny_execs_nil (wpAny_execs_nil ⟨rfl, _, _, _, rfl, F₈, ?_⟩))
      have hp : 0 < X := Nat.pos_of_ne_zero hX0
      refine ⟨ex_ne (ex_ne (ex_ne ⟨_, eRoom⟩)), ex_ne (ex_int ?_), ex_ne (ex_ne (ex_ne ⟨tt, ?_⟩)), ex_str ?_⟩
      · rw [hnext, fin_next, hX, stp_f]; show ((X : Nat) : Int) - 1 = ((X - 1 : Nat) : Int); omega
      · rw [hnext, tk_next, hX, eTaken]; simp
      · rw [hnext, out_next, hX, enc_append, stp_f, decide_eq_true hp, dot_eq]; rfl
  · -- a ball
    rw [show ((⟨#[sgn true]⟩ : Str) == Str.ofString ".") = true by decide +kernel]
    simp only [if_true]
    refine wpAny_allTrue_And_cons (wpAny_isTrue_value (Call_ (gl hK₅ (v := .ref 119) (by kernel_rfl) (callWith_def (o := o119S20 w.params) rfl (args_cons (wpAny_BinOp (wpAny_BinOp (wpAny_Constant_int (ld F.F (upd_ne eRoom) (sub_int (ld F.F (upd_ne eLoad) (wpAny_add_int (args_nil ⟨hK₅ _ _ rfl, ?_⟩)))))))))))))
    refine callC (c_isterm (by exact hK₅) (Nat.lt_trans hd (by decide)) _ _) ?_
    rintro v h' tk₁ kp rfl
    have F₆ := F.keeps kp
    refine wpAny_truthy_bool ?_
    by_cases hXr : X < r
    · rw [show decide ((256 : Int) - (r : Int) + ((X : Nat) : Int) < 256) = true by simp; omega]
      simp only [if_true]
      refine wpAny_allTrue_And_nil ?_
      simp only [if_true]
      refine wpAny_execs_cons (wpAny_AugAssign_Name (ldn F₆.F (upd_ne eLoad) (wpAny_Constant_int (wpAny_iadd_int (stX F₆ fun h₇ F₇ => ?_)))))
      refine wpAny_execs_cons (wpAny_AugAssign_Name (ldn F₇.F (upd_ne (upd_ne eTaken)) (wpAny_Constant_int (wpAny_iadd_int (stX F₇ fun h₈ F₈ => ?_)))))
      refine wpAny_execs_cons (wpAny_AugAssign_Name (ldn F₈.F (upd_ne (upd_ne (upd_ne eLeft))) (wpAny_Constant_str (SBL.iadd (fun t' k _ => stX F₈ fun h₉ F₉ => ?_) hlen))))
      refine wpAny_execs_nil (wpAny_execs_nil ⟨rfl, _, _, _, rfl, F₉, ?_⟩)
      refine ⟨ex_ne (ex_ne (ex_ne (ex_ne ⟨_, eRoom⟩))), ex_ne (ex_ne (ex_int ?_)), ex_ne (ex_int ?_), ex_str ?_⟩
      · rw [hnext, fin_next, hX]; simp [stp, hXr]
      · rw [hnext, tk_next, hX]; simp [hXr]
      · rw [hnext, out_next, hX, enc_append, nl_eq]; simp [stp, hXr]; rfl
    · rw [show decide ((256 : Int) - (r : Int) + ((X : Nat) : Int) < 256) = false by simp; omega]
      simp only [Bool.false_eq_true, if_false]
      refine wpAny_execs_cons (wpAny_If (wpAny_isTrue_BoolOp (wpAny_allTrue_And_cons (wpAny_isTrue_Compare1 (ld F₆.F upd_eq (wpAny_Constant_str (eq_str (wpAny_truthy_bool ?_))))))))
      rw [show ((⟨#[sgn true]⟩ : Str) == Str.ofString "\n") = false by decide +kernel]
      simp only [Bool.false_eq_true, if_false]
      refine wpAny_execs_cons (wpAny_AugAssign_Name (ldn F₆.F (upd_ne eLeft) (ld F₆.F upd_eq (SBL.iadd (fun t' k _ => stX F₆ fun h₇ F₇ => ?_) hlen))))
      refine wpAny_execs_nil (wpAny_execs_nil (wpAny_execs_nil ⟨rfl, _, _, _, rfl, F₇, ?_⟩))
      refine ⟨ex_ne (ex_ne ⟨_, eRoom⟩), ex_ne (ex_ne ⟨tl, ?_⟩), ex_ne (ex_ne ⟨tt, ?_⟩), ex_str ?_⟩
      · rw [hnext, fin_next, hX, eLoad]; simp [stp, hXr]
      · rw [hnext, tk_next, hX, eTaken]; simp [hXr]
      · rw [hnext, out_next, hX, enc_append]; simp [stp, hXr]; rfl
end Mine
end
noncomputable section
open PySem PySem.W PyProof.Rows PySem.Calls
set_option maxRecDepth 100000
namespace Mine
open Bbs
theorem enc_nil : Str.ofString "" = enc [] := by decide +kernel
theorem sizeLine_val : sizeLine = 16777216 := by decide
/-- a tuple made -/
theorem mkTup {w : World} {A : Around} {E : Value → Shared → Prop} {s : Shared} {vs : List Value} {Q : Value → Shared → Prop} (hl : vs.length ≤ 1000)
    (h : Q (.ref s.heap.objs.size) { s with heap := s.heap.push { cls := .type "tuple", data := .seq vs.toArray } }) : wpAny (model P0 w) A (newTuple vs) Q E s :=
  wpAny_newObj_type h (by show vs.toArray.size ≤ sizeLine; rw [List.size_toArray, sizeLine_val]; omega)
set_option maxHeartbeats 4000000 in
theorem c_pass {w : World} {A : Around} {s : Shared} (hK : (KF w.params).In s.heap) (hd : A.depth < 900) (hh : A.handled = none) (b : List Bool) (r : Nat) (hb : b.length ≤ 1000) (hr : r ≤ 1000) (t u : Tok) :
    codeAny (model P0 w) A (.call (.ref 145) ⟨[.str (enc b) t, .int r u], []⟩)
      (Post s fun v h' => ∃ a t1 t2, v = .ref a ∧ s.heap.get? a = none ∧ h'.get? a = some ⟨.type "tuple", none, .seq #[.str (enc (pass r b)) t1, .int (taken r b : Nat) t2] 0, #[]⟩) s := by
  refine call_plain_ret (o := o145S20 w.params) (binds := [("boxes", .str (enc b) t), ("room", .int r u)]) (Nat.lt_trans hd (by decide)) (hK _ _ rfl) rfl (nolimitF hK) (codeRec_of hK (by kernel_rfl)) rfl (locs (by rfl)) fun h₁ F => ?_
  refine wpAny_execs_cons (wpAny_Assign_Name (wpAny_Constant_int (stX (FX.of F) fun h₂ F₂ => ?_)))
  refine wpAny_execs_cons (wpAny_Assign_Name (wpAny_Constant_int (stX F₂ fun h₃ F₃ => ?_)))
  refine wpAny_execs_cons (wpAny_Assign_Name (wpAny_Constant_str (stX F₃ fun h₄ F₄ => ?_)))
  refine wpAny_execs_cons (wpAny_For (wpAny_BinOp (ld F₄.F (by rfl) (wpAny_BinOp (wpAny_Constant_str (ld F₄.F (by rfl) (SB.mul (mulOk_nl r hr) fun t' k => ?_)))))))
  have hsz : (enc b).length + (enc (zs r)).length ≤ sizeLine := by
    rw [enc_length, enc_length, sizeLine_val]; simp only [zs, List.length_replicate]; omega
  have eM := mul_nl r
  refine SBL.add (fun t'' k' _ => ?_) (by rw [eM]; exact hsz)
  have eA : enc b ++ Txt.mul (Str.ofString "\n") (r : Int) = enc (b ++ zs r) := by rw [eM, enc_append]
  have J0 : PassJ (b ++ zs r) r 0 (upd (upd (upd (fun x => [(Str.ofString "boxes", Value.str (enc b) t), (Str.ofString "room", .int r u)].reverse.lookup x) "load" (.int 0 (s.toks + 2))) "taken" (.int 0 (s.toks + 2 + 1 + 1))) "left" (.str "" (s.toks + 2 + 1 + 1 + 1 + 1))) :=
    ⟨ex_ne (ex_ne (ex_ne ⟨u, by rfl⟩)), ex_ne (ex_ne (ex_int (by rw [List.take_zero]; rfl))), ex_ne (ex_int (by rw [List.take_zero]; rfl)), ex_str (by rw [List.take_zero]; exact enc_nil)⟩
  generalize hx : enc b ++ Txt.mul (Str.ofString "\n") (r : Int) = x
  rw [eA] at hx
  refine iter_str (A := A.deeper _) hh (by rw [← hx]; exact enc_ascii _) F₄ (PassJ (b ++ zs r) r) J0 (fun i c' tk' m₁ g₁ h₅ k₅ hc J F₅ => ?_) (fun h' k'' m' F' J => ?_)
  · exact pass_step (s := { s with heap := h₅, toks := k₅ }) hK (by show A.depth + 1 < 901; omega) (by simp only [List.length_append, zs, List.length_replicate]; omega) (by rw [hx]; exact hc) J F₅
  · have hs : x.cps.size = (b ++ zs r).length := by rw [← hx]; exact enc_length _
    rw [hs] at J
    obtain ⟨_, _, ⟨tt, eTaken⟩, ⟨tf, eLeft⟩⟩ := J
    rw [List.take_length] at eTaken eLeft
    refine wpAny_execs_cons (wpAny_Return_some (Tuple_ (args_cons (ld F'.F eLeft (args_cons (ld F'.F eTaken (args_nil (mkTup (by simp) ?_))))))))
    refine ⟨_, _, _, rfl, rfl, (F'.push _).F.keep, _, _, _, rfl, ?_, Heap.get?_push_size _ rfl⟩
    cases q : s.heap.get? h'.objs.size with
    | none => rfl
    | some o => exact absurd (Heap.lt_size (F'.F.keep _ _ q)) (Nat.lt_irrefl _)
end Mine
end
noncomputable section
open PySem
set_option maxRecDepth 100000
namespace Mine
open Sre (M Wait)
abbrev SF := Sre.Frame
abbrev SN := Sre.Seen
def code1 : Array Nat := #[14, 4, 0, 1, 1, 6, 1, 16, 46, 1]
def code2 : Array Nat := #[14, 9, 4, 1, 2, 16, 10, 16, 13, 0, 7, 7, 16, 13, 16, 10, 15, 18, 5, 16, 10, 15, 13, 11, 16, 13, 5, 5, 0, 16, 10, 1, 15, 2, 0, 1]
/-- the search machine, with all that does not turn left out -/
def mk (code T : Array Nat) (lim start pc pos handed : Nat) (outer : Bool) (frames : List SF) (weight : Nat) (answer : Option Bool) (sn : SN) (oc : Option Sre.Outcome) : M :=
  { code, text := T, lim, start, lastStart := lim, wholeText := false, mustAdvance := false, pc, pos, handed, outermost := outer, marks := #[], frames, weight, answer, seen := sn, outcome := oc }
section
variable {T : Array Nat} {lim : Nat}
theorem run_step (n : Nat) (m : M) (h : m.outcome = none) : M.runFor (n + 1) m = M.runFor n m.step := by
  rw [M.runFor, h]; rfl
/-! the second pattern -/
def fr0 (p : Nat) (b : Bool) : SF := { wait := .nextStart, pc := 10, pos := p, outermost := b }
def br (k p : Nat) : SF := { wait := .nextBranch, pc := k, pos := p, outermost := true, kept := { lastmark := -1, lastindex := -1, whole := false, marks := #[] } }
theorem s2a {p hd : Nat} {sn : SN} : ∃ sn', M.step (mk code2 T lim p 10 p hd true [fr0 p true] 1 none sn none) =
    mk code2 T lim p 12 p p true [br 11 p, fr0 p true] 2 none sn' none := ⟨_, rfl⟩
theorem s2b {p hd : Nat} {sn : SN} (hp : p < lim) (hc : T.getD p 0 = 10) : ∃ sn', M.step (mk code2 T lim p 12 p hd true [br 11 p, fr0 p true] 2 none sn none) =
    mk code2 T lim p 12 p hd true [br 11 p, fr0 p true] 2 (some false) sn' none := by
  refine ⟨sn.add 16, ?_⟩
  show (if p ≥ lim then _ else (match Except.ok (T.getD p 0 == 13, sn.add 16) with
    | Except.error why => M.stick _ why
    | Except.ok (false, seen) => M.say _ false
    | Except.ok (true, seen) => _)) = _
  rw [if_neg (by omega), hc]
  rfl
theorem s2c {p hd : Nat} {sn : SN} : ∃ sn', M.step (mk code2 T lim p 12 p hd true [br 11 p, fr0 p true] 2 (some false) sn none) =
    mk code2 T lim p 19 p p true [br 18 p, fr0 p true] 2 none sn' none := ⟨_, rfl⟩
theorem s2d {p hd : Nat} {sn : SN} (hp : p < lim) (hc : T.getD p 0 = 10) : ∃ sn', M.step (mk code2 T lim p 19 p hd true [br 18 p, fr0 p true] 2 none sn none) =
    mk code2 T lim p 21 (p + 1) hd true [br 18 p, fr0 p true] 2 none sn' none := by
  refine ⟨sn.add 16, ?_⟩
  show (if p ≥ lim then _ else (match Except.ok (T.getD p 0 == 10, sn.add 16) with
    | Except.error why => M.stick _ why
    | Except.ok (false, seen) => M.say _ false
    | Except.ok (true, seen) => _)) = _
  rw [if_neg (by omega), hc]
  rfl
theorem s2e {p q hd : Nat} {sn : SN} : ∃ sn', M.step (mk code2 T lim p 21 q hd true [br 18 p, fr0 p true] 2 none sn none) =
    mk code2 T lim p 35 q hd true [br 18 p, fr0 p true] 2 none sn' none := ⟨_, rfl⟩
theorem s2f {p q hd : Nat} {sn : SN} : ∃ sn', M.step (mk code2 T lim p 35 q hd true [br 18 p, fr0 p true] 2 none sn none) =
    mk code2 T lim p 35 q q true [br 18 p, fr0 p true] 2 (some true) sn' none := ⟨_, rfl⟩
theorem s2g {p q hd : Nat} {sn : SN} : ∃ sn' pc pos, M.step (mk code2 T lim p 35 q hd true [br 18 p, fr0 p true] 2 (some true) sn none) =
    mk code2 T lim p pc pos hd true [fr0 p true] 1 (some true) sn' none := ⟨_, _, _, rfl⟩
theorem s2h {p pc q hd : Nat} {sn : SN} : ∃ sn' pc' pos, M.step (mk code2 T lim p pc q hd true [fr0 p true] 1 (some true) sn none) =
    mk code2 T lim p pc' pos hd true [] 0 (some true) sn' none := ⟨_, _, _, rfl⟩
theorem s2i {p pc q hd : Nat} {sn : SN} : ∃ sn', M.step (mk code2 T lim p pc q hd true [] 0 (some true) sn none) =
    mk code2 T lim p pc q hd true [] 0 (some true) sn' (some .matched) := ⟨_, rfl⟩
/-- from the start of an attempt at a feed to its end -/
theorem run2 {p hd : Nat} {sn : SN} (hp : p < lim) (hc : T.getD p 0 = 10) : ∃ m', M.runFor 9 (mk code2 T lim p 10 p hd true [fr0 p true] 1 none sn none) = m' ∧ m'.outcome = some .matched ∧ m'.start = p ∧ m'.handed = p + 1 := by
  obtain ⟨_, e1⟩ := s2a (T := T) (lim := lim) (p := p) (hd := hd) (sn := sn)
  rw [run_step _ _ rfl, e1]
  obtain ⟨_, e⟩ := s2b (T := T) hp hc; rw [run_step _ _ rfl, e]
  obtain ⟨_, e⟩ := s2c (T := T) (lim := lim) (p := p); rw [run_step _ _ rfl, e]
  obtain ⟨_, e⟩ := s2d (T := T) hp hc; rw [run_step _ _ rfl, e]
  obtain ⟨_, e⟩ := s2e (T := T) (lim := lim) (p := p); rw [run_step _ _ rfl, e]
  obtain ⟨_, e⟩ := s2f (T := T) (lim := lim) (p := p); rw [run_step _ _ rfl, e]
  obtain ⟨_, _, _, e⟩ := s2g (T := T) (lim := lim) (p := p); rw [run_step _ _ rfl, e]
  obtain ⟨_, _, _, e⟩ := s2h (T := T) (lim := lim) (p := p); rw [run_step _ _ rfl, e]
  obtain ⟨_, e⟩ := s2i (T := T) (lim := lim) (p := p); rw [run_step _ _ rfl, e]
  exact ⟨_, rfl, rfl, rfl, rfl⟩
end
end Mine
end
noncomputable section
open PySem
set_option maxRecDepth 100000
namespace Mine
open Sre (M Wait)
section
variable {T : Array Nat} {lim : Nat}
/-- the run from m comes to an end at m' -/
def Comes (m : M) (B : Nat) (P : M → Prop) : Prop := ∃ n, n ≤ B ∧ (M.runFor n m).outcome.isSome = true ∧ P (M.runFor n m)
theorem runFor_done (k : Nat) : ∀ (m : M), m.outcome.isSome = true → M.runFor k m = m := by
  induction k with
  | zero => intro m _; rfl
  | succ k ih => intro m h; rw [M.runFor, if_pos h]
theorem runFor_add : ∀ (n k : Nat) (m : M), M.runFor (n + k) m = M.runFor k (M.runFor n m) := by
  intro n
  induction n with
  | zero => intro k m; rw [Nat.zero_add]; rfl
  | succ n ih =>
    intro k m
    rw [show n + 1 + k = n + k + 1 by omega]
    by_cases h : m.outcome.isSome = true
    · rw [runFor_done _ _ h, runFor_done _ _ h, runFor_done _ _ h]
    · rw [M.runFor, if_neg h, M.runFor, if_neg h, ih]
theorem Comes.step {m m' : M} {B : Nat} {P : M → Prop} (h : m.outcome = none) (e : m.step = m') (c : Comes m' B P) : Comes m (B + 1) P := by
  obtain ⟨n, hn, c1, c2⟩ := c
  refine ⟨n + 1, by omega, ?_⟩
  rw [run_step _ _ h, e]; exact ⟨c1, c2⟩
theorem Comes.now {m : M} {B : Nat} {P : M → Prop} (h : m.outcome.isSome = true) (p : P m) : Comes m B P := ⟨0, Nat.zero_le _, h, p⟩
theorem Comes.le {m : M} {B B' : Nat} {P : M → Prop} (c : Comes m B P) (h : B ≤ B') : Comes m B' P := let ⟨n, a, b⟩ := c; ⟨n, Nat.le_trans a h, b⟩
def Hit (a b : Nat) (m : M) : Prop := m.outcome = some .matched ∧ m.start = a ∧ m.handed = b
def Miss (m : M) : Prop := m.outcome = some .failed
/-! the second pattern: where a search begins -/
theorem set10 (sn : SN) : ∃ sn', Sre.inSet code2 10 36 5 true sn = .ok (true, sn') := ⟨_, rfl⟩
theorem set46 (sn : SN) : ∃ sn', Sre.inSet code2 46 36 5 true sn = .ok (false, sn') := ⟨_, rfl⟩
theorem admit_some (m : M) (hm : m.code = code2) {p : Nat} (hp : p < m.lim) (hc : m.text.getD p 0 = 10) : ∀ (fuel s : Nat) (sn : SN), s ≤ p → p - s < fuel → (∀ i, s ≤ i → i < p → m.text.getD i 0 = 46) →
    ∃ sn', M.admitted m fuel s sn = .ok (some p, sn') := by
  intro fuel
  induction fuel with
  | zero => intro s sn _ h; omega
  | succ fuel ih =>
    intro s sn hs hf ha
    rw [M.admitted, if_neg (by omega), hm]
    by_cases e : s = p
    · subst e
      rw [hc]
      obtain ⟨sn', q⟩ := set10 sn
      have : Sre.inSet code2 10 code2.size 5 true sn = .ok (true, sn') := q
      rw [this]; exact ⟨_, rfl⟩
    · rw [ha s (Nat.le_refl _) (by omega)]
      obtain ⟨sn', q⟩ := set46 sn
      have : Sre.inSet code2 46 code2.size 5 true sn = .ok (false, sn') := q
      rw [this]; exact ih (s + 1) sn' (by omega) (by omega) fun i h1 h2 => ha i (by omega) h2
theorem admit_none (m : M) (hm : m.code = code2) : ∀ (fuel s : Nat) (sn : SN), (∀ i, s ≤ i → i < m.lim → m.text.getD i 0 = 46) → ∃ sn', M.admitted m fuel s sn = .ok (none, sn') := by
  intro fuel
  induction fuel with
  | zero => intro s sn _; exact ⟨_, rfl⟩
  | succ fuel ih =>
    intro s sn ha
    rw [M.admitted, hm]
    by_cases e : s ≥ m.lim
    · rw [if_pos e]; exact ⟨_, rfl⟩
    · rw [if_neg e, ha s (Nat.le_refl _) (by omega)]
      obtain ⟨sn', q⟩ := set46 sn
      have : Sre.inSet code2 46 code2.size 5 true sn = .ok (false, sn') := q
      rw [this]; exact ih (s + 1) sn' fun i h1 h2 => ha i (by omega) h2
theorem say_false (m : M) (ho : m.outcome = none) (hf : m.frames = []) : Comes (m.say false) 1 Miss := by
  refine .step ho rfl ?_
  have : (m.say false).step = { (m.say false) with outcome := some .failed } := by
    obtain ⟨⟩ := m
    dsimp only [M.say] at *
    subst ho hf
    rfl
  rw [this]; exact .now rfl rfl
def base2 (T : Array Nat) (lim s last : Nat) : M := { mk code2 T lim s 10 s s true [] 0 none (({} : SN).add 14) none with lastStart := last }
theorem fs2 (s : Nat) : Sre.forSearch code2 T 0 s lim false = if (decide (s > lim) || decide (lim - s < 1)) = true then (base2 T lim s 0).say false else M.attemptFrom (base2 T lim s lim) s true := rfl
/-- a search of the second pattern in a text of dots and feeds -/
theorem search2_hit {s p : Nat} (hs : s ≤ p) (hp : p < lim) (hc : T.getD p 0 = 10) (ha : ∀ i, s ≤ i → i < p → T.getD i 0 = 46) : Comes (Sre.forSearch code2 T 0 s lim false) 9 (Hit p (p + 1)) := by
  rw [fs2, if_neg (by simp; omega)]
  obtain ⟨sn', e⟩ := admit_some (base2 T lim s lim) rfl (p := p) hp hc (lim + 1 - s) s (({} : SN).add 14) hs (by omega) ha
  have e2 : M.attemptFrom (base2 T lim s lim) s true = mk code2 T lim p 10 p p true [fr0 p true] 1 none sn' none := by
    show (match M.admitted (base2 T lim s lim) (lim + 1 - s) s (({} : SN).add 14) with
      | .ok (some s', seen) => M.attemptAt { (base2 T lim s lim) with mustAdvance := false, seen := seen } s' true
      | .ok (none, seen) => M.say { (base2 T lim s lim) with seen := seen } false
      | .error why => M.stick (base2 T lim s lim) why) = _
    rw [e]; rfl
  rw [e2]
  obtain ⟨m', e3, h1, h2, h3⟩ := run2 (T := T) (lim := lim) (p := p) (hd := p) (sn := sn') hp hc
  exact ⟨9, Nat.le_refl _, by rw [e3, h1]; rfl, by rw [e3]; exact ⟨h1, h2, h3⟩⟩
theorem search2_miss {s : Nat} (ha : ∀ i, s ≤ i → i < lim → T.getD i 0 = 46) : Comes (Sre.forSearch code2 T 0 s lim false) 1 Miss := by
  rw [fs2]
  by_cases h : (decide (s > lim) || decide (lim - s < 1)) = true
  · rw [if_pos h]; exact say_false _ rfl rfl
  · rw [if_neg h]
    obtain ⟨sn', e⟩ := admit_none (base2 T lim s lim) rfl (lim + 1 - s) s (({} : SN).add 14) ha
    have e2 : M.attemptFrom (base2 T lim s lim) s true = M.say { (base2 T lim s lim) with seen := sn' } false := by
      show (match M.admitted (base2 T lim s lim) (lim + 1 - s) s (({} : SN).add 14) with
        | .ok (some s', seen) => M.attemptAt { (base2 T lim s lim) with mustAdvance := false, seen := seen } s' true
        | .ok (none, seen) => M.say { (base2 T lim s lim) with seen := seen } false
        | .error why => M.stick (base2 T lim s lim) why) = _
      rw [e]
    rw [e2]; exact say_false _ rfl rfl
/-! the first pattern -/
def fr1 (p : Nat) (b : Bool) : SF := { wait := .nextStart, pc := 5, pos := p, outermost := b }
def atLine (T : Array Nat) (p : Nat) : Bool := p == 0 || T.getD (p - 1) 0 == 10
theorem s1a {p hd : Nat} {b : Bool} {sn : SN} (h : atLine T p = true) : ∃ sn', M.step (mk code1 T lim p 5 p hd b [fr1 p b] 1 none sn none) = mk code1 T lim p 7 p hd b [fr1 p b] 1 none sn' none := by
  refine ⟨(sn.add 6).add 44, ?_⟩
  show (if atLine T p = true then _ else _) = _
  rw [if_pos h]; rfl
theorem s1a' {p hd : Nat} {b : Bool} {sn : SN} (h : atLine T p = false) : ∃ sn', M.step (mk code1 T lim p 5 p hd b [fr1 p b] 1 none sn none) = mk code1 T lim p 5 p hd b [fr1 p b] 1 (some false) sn' none := by
  refine ⟨(sn.add 6).add 44, ?_⟩
  show (if atLine T p = true then _ else _) = _
  rw [if_neg (by rw [h]; exact Bool.false_ne_true)]; rfl
theorem s1b {p hd : Nat} {b : Bool} {sn : SN} (hp : p < lim) (hc : T.getD p 0 = 46) : ∃ sn', M.step (mk code1 T lim p 7 p hd b [fr1 p b] 1 none sn none) = mk code1 T lim p 9 (p + 1) hd b [fr1 p b] 1 none sn' none := by
  refine ⟨sn.add 16, ?_⟩
  show (if p ≥ lim then _ else (match Except.ok (T.getD p 0 == 46, sn.add 16) with
    | Except.error why => M.stick _ why
    | Except.ok (false, seen) => M.say _ false
    | Except.ok (true, seen) => _)) = _
  rw [if_neg (by omega), hc]; rfl
theorem s1b' {p hd : Nat} {b : Bool} {sn : SN} (hp : p < lim → T.getD p 0 ≠ 46) : ∃ sn', M.step (mk code1 T lim p 7 p hd b [fr1 p b] 1 none sn none) = mk code1 T lim p 7 p hd b [fr1 p b] 1 (some false) sn' none := by
  by_cases q : p ≥ lim
  · refine ⟨sn.add 16, ?_⟩
    show (if p ≥ lim then _ else _) = _
    rw [if_pos q]; rfl
  · refine ⟨sn.add 16, ?_⟩
    show (if p ≥ lim then _ else (match Except.ok (T.getD p 0 == 46, sn.add 16) with
      | Except.error why => M.stick _ why
      | Except.ok (false, seen) => M.say _ false
      | Except.ok (true, seen) => _)) = _
    rw [if_neg q, beq_eq_false_iff_ne.mpr (hp (by omega))]; rfl
theorem s1c {p q hd : Nat} {b : Bool} {sn : SN} : ∃ sn', M.step (mk code1 T lim p 9 q hd b [fr1 p b] 1 none sn none) = mk code1 T lim p 9 q q b [fr1 p b] 1 (some true) sn' none := by
  cases b
  · exact ⟨_, rfl⟩
  · exact ⟨_, rfl⟩
theorem s1d {p pc q hd : Nat} {b : Bool} {sn : SN} : ∃ sn' pc' pos, M.step (mk code1 T lim p pc q hd b [fr1 p b] 1 (some true) sn none) = mk code1 T lim p pc' pos hd b [] 0 (some true) sn' none := ⟨_, _, _, rfl⟩
theorem s1e {p pc q hd : Nat} {b : Bool} {sn : SN} : ∃ sn', M.step (mk code1 T lim p pc q hd b [] 0 (some true) sn none) = mk code1 T lim p pc q hd b [] 0 (some true) sn' (some .matched) := ⟨_, rfl⟩
theorem s1f {p pc q hd : Nat} {b : Bool} {sn : SN} (hp : p < lim) : ∃ sn', M.step (mk code1 T lim p pc q hd b [fr1 p b] 1 (some false) sn none) = mk code1 T lim (p + 1) 5 (p + 1) (p + 1) false [fr1 (p + 1) false] 1 none sn' none := by
  refine ⟨sn, ?_⟩
  show (if p < lim then _ else _) = _
  rw [if_pos hp]; rfl
theorem s1g {p pc q hd : Nat} {b : Bool} {sn : SN} (hp : ¬ p < lim) : ∃ sn' pc' pos, M.step (mk code1 T lim p pc q hd b [fr1 p b] 1 (some false) sn none) = mk code1 T lim p pc' pos hd b [] 0 (some false) sn' none := by
  refine ⟨sn, 5, p, ?_⟩
  show (if p < lim then _ else _) = _
  rw [if_neg hp]; rfl
theorem s1h {p pc q hd : Nat} {b : Bool} {sn : SN} : ∃ sn', M.step (mk code1 T lim p pc q hd b [] 0 (some false) sn none) = mk code1 T lim p pc q hd b [] 0 (some false) sn' (some .failed) := ⟨_, rfl⟩
def good (T : Array Nat) (lim p : Nat) : Prop := atLine T p = true ∧ p < lim ∧ T.getD p 0 = 46
/-- an attempt at p that is no good ends with no -/
theorem s1no {p hd : Nat} {b : Bool} {sn : SN} {B : Nat} {P : M → Prop} (h : ¬ good T lim p) (k : ∀ pc q hd sn, Comes (mk code1 T lim p pc q hd b [fr1 p b] 1 (some false) sn none) B P) :
    Comes (mk code1 T lim p 5 p hd b [fr1 p b] 1 none sn none) (B + 2) P := by
  cases ha : atLine T p with
  | false =>
    obtain ⟨_, e⟩ := s1a' (lim := lim) (hd := hd) (b := b) (sn := sn) ha
    exact (Comes.step rfl e (k _ _ _ _)).le (by omega)
  | true =>
    obtain ⟨_, e⟩ := s1a (lim := lim) (hd := hd) (b := b) (sn := sn) ha
    obtain ⟨_, e'⟩ := s1b' (T := T) (lim := lim) (p := p) (hd := hd) (b := b) (fun hp hc => h ⟨ha, hp, hc⟩)
    exact .step rfl e (.step rfl e' (k _ _ _ _))
theorem run1_hit {q : Nat} (hq : good T lim q) : ∀ (d p : Nat) (hd : Nat) (b : Bool) (sn : SN), p + d = q → (∀ i, p ≤ i → i < q → ¬ good T lim i) →
    Comes (mk code1 T lim p 5 p hd b [fr1 p b] 1 none sn none) (3 * d + 5) (Hit q (q + 1)) := by
  intro d
  induction d with
  | zero =>
    intro p hd b sn e _
    obtain rfl : p = q := by omega
    obtain ⟨h1, h2, h3⟩ := hq
    obtain ⟨_, e1⟩ := s1a (T := T) (lim := lim) (p := p) (hd := hd) (b := b) (sn := sn) h1
    obtain ⟨_, e2⟩ := s1b (T := T) (lim := lim) (p := p) (hd := hd) (b := b) h2 h3
    obtain ⟨_, e3⟩ := s1c (T := T) (lim := lim) (p := p) (q := p + 1) (hd := hd) (b := b)
    obtain ⟨_, _, _, e4⟩ := s1d (T := T) (lim := lim) (p := p) (pc := 9) (q := p + 1) (hd := p + 1) (b := b)
    obtain ⟨_, e5⟩ := s1e (T := T) (lim := lim) (p := p) (hd := p + 1) (b := b)
    exact .step rfl e1 (.step rfl e2 (.step rfl e3 (.step rfl e4 (.step rfl e5 (.now rfl ⟨rfl, rfl, rfl⟩)))))
  | succ d ih =>
    intro p hd b sn e ha
    refine (s1no (B := 3 * d + 5 + 1) (ha p (Nat.le_refl _) (by omega)) fun pc q' hd' sn' => ?_).le (by omega)
    obtain ⟨_, e1⟩ := s1f (T := T) (lim := lim) (p := p) (pc := pc) (q := q') (hd := hd') (b := b) (sn := sn') (by have := hq.2.1; omega)
    exact .step rfl e1 (ih (p + 1) _ _ _ (by omega) fun i h1 h2 => ha i (by omega) h2)
theorem run1_miss : ∀ (d p : Nat) (hd : Nat) (b : Bool) (sn : SN), p + d = lim → (∀ i, p ≤ i → i ≤ lim → ¬ good T lim i) →
    Comes (mk code1 T lim p 5 p hd b [fr1 p b] 1 none sn none) (3 * d + 5) Miss := by
  intro d
  induction d with
  | zero =>
    intro p hd b sn e ha
    refine (s1no (B := 2) (ha p (Nat.le_refl _) (by omega)) fun pc q' hd' sn' => ?_).le (by omega)
    obtain ⟨_, _, _, e1⟩ := s1g (T := T) (lim := lim) (p := p) (pc := pc) (q := q') (hd := hd') (b := b) (sn := sn') (by omega)
    obtain ⟨_, e2⟩ := s1h (T := T) (lim := lim) (p := p) (hd := hd') (b := b)
    exact .step rfl e1 (.step rfl e2 (.now rfl rfl))
  | succ d ih =>
    intro p hd b sn e ha
    refine (s1no (B := 3 * d + 5 + 1) (ha p (Nat.le_refl _) (by omega)) fun pc q' hd' sn' => ?_).le (by omega)
    obtain ⟨_, e1⟩ := s1f (T := T) (lim := lim) (p := p) (pc := pc) (q := q') (hd := hd') (b := b) (sn := sn') (by omega)
    exact .step rfl e1 (ih (p + 1) _ _ _ (by omega) fun i h1 h2 => ha i (by omega) h2)
def base1 (T : Array Nat) (lim s last : Nat) : M := { mk code1 T lim s 5 s s true [] 0 none (({} : SN).add 14) none with lastStart := last }
theorem fs1 (s : Nat) : Sre.forSearch code1 T 0 s lim false = if (decide (s > lim) || decide (lim - s < 1)) = true then (base1 T lim s 0).say false else M.attemptFrom (base1 T lim s lim) s true := rfl
theorem fs1' (s : Nat) : M.attemptFrom (base1 T lim s lim) s true = mk code1 T lim s 5 s s true [fr1 s true] 1 none (({} : SN).add 14) none := rfl
theorem search1_hit {s q : Nat} (hs : s ≤ q) (hq : good T lim q) (ha : ∀ i, s ≤ i → i < q → ¬ good T lim i) : Comes (Sre.forSearch code1 T 0 s lim false) (3 * lim + 5) (Hit q (q + 1)) := by
  have := hq.2.1
  rw [fs1, if_neg (by simp; omega), fs1']
  exact (run1_hit hq (q - s) s s true _ (by omega) ha).le (by omega)
theorem search1_miss {s : Nat} (ha : ∀ i, s ≤ i → i ≤ lim → ¬ good T lim i) : Comes (Sre.forSearch code1 T 0 s lim false) (3 * lim + 5) Miss := by
  rw [fs1]
  by_cases h : (decide (s > lim) || decide (lim - s < 1)) = true
  · rw [if_pos h]; exact (say_false _ rfl rfl).le (by omega)
  · rw [if_neg h, fs1']
    simp at h
    exact (run1_miss (lim - s) s s true _ (by omega) ha).le (by omega)
end
end Mine
end
noncomputable section
open PySem PySem.W PyProof.Rows PySem.Calls PySem.Builtin.Re
set_option maxRecDepth 100000
namespace Mine
open Sre (M)
theorem pa_pat : PlainAttrs "re.Pattern" :=
  ⟨⟨"object.__getattribute__", by rw [typeLookup_type, builtinLookup_eq_fast]; kernel_rfl, by decide +kernel⟩, by rw [typeLookup_type, builtinLookup_eq_fast]; kernel_rfl⟩
theorem slot_sub : Slot "re.Pattern" "sub" "re.Pattern.sub" :=
  .of (owner := "re.Pattern") (n := "sub") (by rw [typeLookup_type, builtinLookup_eq_fast]; kernel_rfl) (by decide +kernel) (by decide +kernel) (by decide +kernel)
    (by first | exact .inl (by decide +kernel) | exact .inr (by decide +kernel)) (by rw [isSubtype_type]; kernel_rfl)
theorem type_sub : typeOf (.builtin "re.Pattern.sub") = pure (.type "method_descriptor") := by show builtinType _ = _; rw [builtinType_eq_fast]; kernel_rfl
theorem entry_sub : entryFor table "re.Pattern.sub" = some Builtin.«re.Pattern.sub» := entryFor_of_tree (by kernel_rfl)
theorem entry_loop : entryFor table "re.Pattern.sub.loop" = some Builtin.«re.Pattern.sub.loop» := entryFor_of_tree (by kernel_rfl)
theorem owner_pat : Manifest.owners.lookup (String.ofList ['n', 'r', 'e', 't', 't', 'a', 'P', '.', 'e', 'r'].reverse) = some Manifest.sig_re_Pattern := by kernel_rfl
theorem args_sub (a b c : Value) : argsOk "re.Pattern.sub" ⟨[a, b, c], []⟩ := by
  unfold argsOk; rw [signature?_of (id := "re.Pattern.sub") (n := ['b', 'u', 's']) (o := ['n', 'r', 'e', 't', 't', 'a', 'P', '.', 'e', 'r']) (by kernel_rfl) owner_pat]; kernel_rfl
theorem plain_loop : plainId "re.Pattern.sub.loop" = true := by decide +kernel
section
variable {w : World} {A : Around} {E : Value → Shared → Prop} {s : Shared}
theorem drive {Q : M → Shared → Prop} : ∀ (n : Nat) (turns : Nat) (m : M), n ≤ 4 * turns → (M.runFor n m).outcome.isSome = true → Q (M.runFor n m) s → 0 < turns → wpAny (model P0 w) A (reDrive turns m) Q E s := by
  intro n
  induction n using Nat.strongRecOn with
  | ind n ih =>
    intro turns m hn ho hq ht
    obtain ⟨turns, rfl⟩ : ∃ k, turns = k + 1 := ⟨turns - 1, by omega⟩
    unfold reDrive
    by_cases h4 : n ≤ 4
    · have e : M.runFor reTurnSteps m = M.runFor n m := by
        show M.runFor 4 m = _
        rw [show 4 = n + (4 - n) by omega, runFor_add, runFor_done _ _ ho]
      rw [e]
      simp only [ho, if_true]
      exact wpAny_pure hq
    · by_cases h1 : (M.runFor reTurnSteps m).outcome.isSome = true
      · have e : M.runFor n m = M.runFor reTurnSteps m := by
          show _ = M.runFor 4 m
          rw [show n = 4 + (n - 4) by omega, runFor_add]
          exact runFor_done _ _ h1
        simp only [h1, if_true]
        rw [e] at hq
        exact wpAny_pure hq
      · simp only [h1]
        have e : M.runFor n m = M.runFor (n - 4) (M.runFor reTurnSteps m) := by
          show _ = M.runFor _ (M.runFor 4 m)
          rw [← runFor_add]; congr 1; omega
        rw [e] at ho hq
        exact wpAny_bind (wpAny_rule (ih (n - 4) (by omega) turns _ (by omega) ho hq (by omega)))
theorem rules_loop {f : Nat → PUnit → Sem (ForInStep PUnit)} {Q : PUnit → Shared → Prop} (hf : ∀ i, wpAny (model P0 w) A (f i ⟨⟩) (fun r s' => r = .yield ⟨⟩ ∧ s' = s) E s) :
    ∀ (l : List Nat), Q ⟨⟩ s → wpAny (model P0 w) A (forIn l PUnit.unit f) Q E s
  | [], h => wpAny_pure h
  | i :: l, h => by
    rw [List.forIn_cons]
    refine wpAny_bind (wpAny_mono (hf i) (fun r s' h' => ?_) fun _ _ e => e)
    obtain ⟨e1, e2⟩ := h'
    rw [e1, e2]
    exact rules_loop hf l h
theorem toEnd_hit {m : M} {B a b : Nat} {Q : Option M → Shared → Prop} (c : Comes m B (Hit a b)) (hB : B ≤ 1000000) (h : ∀ m' : M, m'.start = a → m'.handed = b → Q (some m') s) : wpAny (model P0 w) A (reRunToEnd m) Q E s := by
  obtain ⟨n, hn, ho, h1, h2, h3⟩ := c
  unfold reRunToEnd
  refine wpAny_bind (drive n (2 ^ 64) m (by omega) ho ?_ (by decide))
  refine wpAny_bind (rules_loop (fun i => by split <;> first | exact wpAny_bind (wpAny_rule (wpAny_pure ⟨rfl, rfl⟩)) | exact wpAny_bind (wpAny_pure (wpAny_pure ⟨rfl, rfl⟩)) | exact wpAny_pure ⟨rfl, rfl⟩) _ ?_)
  rw [h1]
  exact wpAny_pure (h _ h2 h3)
theorem toEnd_miss {m : M} {B : Nat} {Q : Option M → Shared → Prop} (c : Comes m B Miss) (hB : B ≤ 1000000) (h : Q none s) : wpAny (model P0 w) A (reRunToEnd m) Q E s := by
  obtain ⟨n, hn, ho, h1⟩ := c
  unfold reRunToEnd
  refine wpAny_bind (drive n (2 ^ 64) m (by omega) ho ?_ (by decide))
  refine wpAny_bind (rules_loop (fun i => by split <;> first | exact wpAny_bind (wpAny_rule (wpAny_pure ⟨rfl, rfl⟩)) | exact wpAny_bind (wpAny_pure (wpAny_pure ⟨rfl, rfl⟩)) | exact wpAny_pure ⟨rfl, rfl⟩) _ ?_)
  rw [show (M.runFor n m).outcome = some .failed from h1]
  exact wpAny_pure h
end
end Mine
end
noncomputable section
open PySem PySem.W PyProof.Rows PySem.Calls PySem.Builtin.Re
set_option maxRecDepth 100000
namespace Mine
open Sre (M)
/-- what a substitution by R makes of the text from d on -/
inductive Sub (code T : Array Nat) (R : Str) : Nat → List Nat → Prop
  | miss {d : Nat} {r : List Nat} : Comes (Sre.forSearch code T 0 d T.size false) 1000000 Miss → r = (T.extract d T.size).toList → Sub code T R d r
  | hit {d p : Nat} {r r' : List Nat} : d ≤ p → p < T.size → Comes (Sre.forSearch code T 0 d T.size false) 1000000 (Hit p (p + 1)) → Sub code T R (p + 1) r → r' = (T.extract d p).toList ++ R.cps.toList ++ r → Sub code T R d r'
abbrev lobj (l : List (Str × Tok)) (ep : Nat) : Obj := ⟨.type "list", none, .seq (strValues l).toArray ep, #[]⟩
def tgt (pa : Addr) (code : Array Nat) (x : Str) (t : Tok) : ReTarget := { pattern := .ref pa, string := .str x t, code, text := x.cps, kind := 0, groups := 0, pos := 0, lim := x.cps.size }
/-- the pattern at pa has this code -/
def PatAt (w : World) (pa : Addr) (code : Array Nat) : Prop := ∀ (A : Around) (E : Value → Shared → Prop) (s : Shared) (x : Str) (t : Tok) (Q : ReTarget → Shared → Prop), (KF w.params).In s.heap → Q (tgt pa code x t) s → wpAny (model P0 w) A (reWholeTarget (.ref pa) (.str x t)) Q E s
section
variable {w : World}
theorem pat_of {pa ca : Addr} {o : Obj} {oc : Obj} {pv fv : Value} {vs : Array Value} {n : Nat} {code : Array Nat} (h1 : (KF w.params).lookup pa = some o) (h2 : o.data = .fields #[pv, fv, .int 0 0, .none, .none, .ref ca, .int 0 0])
    (h3 : (KF w.params).lookup ca = some oc) (h4 : oc.data = .seq vs n) (h5 : (vs.map reRawOf).map (·.toNat) = code) : PatAt w pa code := by
  intro A E s x t Q hK q
  unfold reWholeTarget
  refine wpAny_bind (wpAny_fieldsOf (hK _ _ h1) h2 ?_)
  unfold reTextOf
  refine wpAny_bind (wpAny_bind (wpAny_pure ?_))
  refine wpAny_pure ?_
  refine wpAny_bind (wpAny_pure ?_)
  refine wpAny_bind ?_
  show wpAny _ _ (reRawItems (.ref ca)) _ _ _
  unfold reRawItems
  refine wpAny_bind (wpAny_seqItems (hK _ _ h3) h4 (wpAny_pure (wpAny_pure ?_)))
  show Q { pattern := .ref pa, string := .str x t, code := (vs.map reRawOf).map (·.toNat), text := x.cps, kind := 0, groups := 0, pos := 0, lim := x.cps.size } s
  rw [h5]; exact q
/-- one more piece -/
theorem pushP {A : Around} {E : Value → Shared → Prop} {s : Shared} {D : Addr} {l : List (Str × Tok)} {ep : Nat} {y : Str} {u : Tok} {Q : Unit → Shared → Prop} (ho : s.heap.get? D = some (lobj l ep)) (hl : l.length ≤ 100000)
    (h : ∀ h' ep', h'.get? D = some (lobj (l ++ [(y, u)]) ep') → (∀ b o, b ≠ D → s.heap.get? b = some o → h'.get? b = some o) → Q () { s with heap := h' }) :
    wpAny (model P0 w) A (updateSeq D (·.push (.str y u))) Q E s := by
  have hs : (strValues l).toArray.size = l.length := by simp [strValues]
  refine wpAny_updateSeq ho rfl (h _ (ep + 1) ?_ fun b o n e => (Heap.get?_update_ne _ _ _ _ n).trans e) (by rw [hs, sizeLine_val]; omega) (by rw [Array.size_push, hs, sizeLine_val]; omega)
  rw [Heap.get?_update_self _ ho rfl]
  have e : ((strValues l).toArray.push (.str y u)).size ≠ (strValues l).toArray.size := by rw [Array.size_push]; omega
  simp only [Obj.mapSeq, beq_eq_false_iff_ne.mpr e, Bool.false_eq_true, if_false]
  simp [lobj, strValues]
theorem pat1 : PatAt w 36 code1 := pat_of (by rfl) rfl (by rfl) rfl (by decide +kernel)
theorem pat2 : PatAt w 41 code2 := pat_of (by rfl) rfl (by rfl) rfl (by decide +kernel)
theorem slice_ok {A : Around} {E : Value → Shared → Prop} {s : Shared} {T : Array Nat} {a b : Nat} {Q : Value → Shared → Prop} (hT : T.size ≤ 100000) (h : Q (.str ⟨T.extract a b⟩ s.toks) { s with toks := s.toks + 1 }) :
    wpAny (model P0 w) A (reSlice T 0 a b) Q E s := by
  show wpAny _ _ (mkStr ⟨T.extract a b⟩) _ _ _
  exact wpAny_mkStr h (by show (T.extract a b).size ≤ sizeLine; rw [Array.size_extract, sizeLine_val]; omega)
def cat (l : List (Str × Tok)) : List Nat := l.flatMap fun p => p.1.cps.toList
theorem cat_snoc (l : List (Str × Tok)) (y : Str) (u : Tok) : cat (l ++ [(y, u)]) = cat l ++ y.cps.toList := by simp [cat]
def weigh (l : List (Str × Tok)) : Nat := (l.map fun p => p.1.length).sum
theorem weigh_snoc (l : List (Str × Tok)) (y : Str) (u : Tok) : weigh (l ++ [(y, u)]) = weigh l + y.length := by simp [weigh]
theorem join_cat : ∀ l : List (Str × Tok), (Str.join ⟨#[]⟩ (l.map (·.1))).cps.toList = cat l
  | [] => rfl
  | (x, t) :: l => by
    rw [List.map_cons, join_nil_cons]
    show (x.cps ++ (Str.join ⟨#[]⟩ (l.map (·.1))).cps).toList = _
    rw [Array.toList_append, join_cat l]; rfl
theorem kf_low {P : Params} {a : Addr} {o : Obj} (e : (KF P).lookup a = some o) (h : 151 ≤ a) : False := by
  have : a ∈ (KF P).map (·.1) := by
    have := List.lookup_eq_some_iff.mp e
    obtain ⟨l1, l2, h1, _⟩ := this
    rw [h1]; simp
  rw [← asF_K] at this
  have := List.mem_range.mp this
  exact absurd h (Nat.not_le.mpr this)
theorem sub_loop {A : Around} {pa D : Addr} {code : Array Nat} (hP : PatAt w pa code) {x R : Str} {t tr : Tok} (hx : x.cps.size ≤ 10000) (hR : R.length ≤ 2) (hD : 151 ≤ D) {d : Nat} {rest : List Nat} (S : Sub code x.cps R d rest) :
    ∀ (l : List (Str × Tok)) (n : Int) (s : Shared) (ep : Nat), (KF w.params).In s.heap → s.heap.get? D = some (lobj l ep) → d ≤ x.cps.size → l.length ≤ 2 * d → weigh l ≤ 3 * d →
    codeAny (model P0 w) A (.builtin "re.Pattern.sub.loop" ⟨[.ref pa, .str x t, .str R tr, .int 0 0, .int 0 0, .int n 0, .int d 0, .int d 0, .bool false, .ref D, .bool false], []⟩)
      (fun r s' => ∃ X tk h' k, r = .ok (.ret (.str X tk)) ∧ X.cps.toList = cat l ++ rest ∧ s' = { s with heap := h', toks := k } ∧ ∀ b o, b ≠ D → s.heap.get? b = some o → h'.get? b = some o) s := by
  induction S with
  | @miss d r hc hr =>
    intro l n s ep hK ho hd hl hw
    refine codeAny_builtin entry_loop ?_
    unfold Builtin.«re.Pattern.sub.loop»
    refine wpAny_bind (hP _ _ _ _ _ _ hK ?_)
    show wpAny _ _ (reLiteralCannotBeTurned (Value.str R tr) >>= _) _ _ _
    refine wpAny_bind (wpAny_bind (wpAny_pure (wpAny_pure ?_)))
    show wpAny _ _ (reRunToEnd (Sre.forSearch code x.cps 0 d x.cps.size false) >>= _) _ _ _
    refine wpAny_bind (toEnd_miss hc (by omega) ?_)
    have fin : ∀ (s₁ : Shared) (l₁ : List (Str × Tok)) (ep₁ : Nat), s₁.heap.get? D = some (lobj l₁ ep₁) → weigh l₁ ≤ 1000000 → cat l₁ = cat l ++ r → (∃ h₁ k₁, s₁ = { s with heap := h₁, toks := k₁ }) →
        (∀ b o, b ≠ D → s.heap.get? b = some o → s₁.heap.get? b = some o) → wpAny (model P0 w) (A.under (Code.builtin "re.Pattern.sub.loop" { pos := [Value.ref pa, Value.str x t, Value.str R tr, Value.int 0 0, Value.int 0 0, Value.int n 0, Value.int d 0, Value.int d 0, Value.bool false, Value.ref D, Value.bool false] }))
          (do
            let joiner ← reSlice (tgt pa code x t).text (tgt pa code x t).kind 0 0
            let __do_lift ← seqItems? (Value.ref D)
            have __do_jp : Value → Sem PySem.Fin := fun text =>
              if false = true then do
                let __do_lift ←
                  holding [text] do
                      let __do_lift ← mkInt n
                      newTuple [text, __do_lift]
                ret __do_lift
              else ret text
            if (__do_lift.getD #[]).isEmpty = true then do
                let text ← pure joiner
                __do_jp text
              else do
                let text ←
                  call (Value.builtin (if ((tgt pa code x t).kind == 0) = true then "str.join" else "bytes.join"))
                      [joiner, Value.ref D]
                __do_jp text) (fun fin s' => match fin with
      | Fin.done f => ∃ X tk h' k, (Except.ok f : Result) = Except.ok (Flow.ret (Value.str X tk)) ∧ X.cps.toList = cat l ++ r ∧ s' = { s with heap := h', toks := k } ∧ ∀ (b : Addr) (o : Obj), b ≠ D → s.heap.get? b = some o → h'.get? b = some o
      | Fin.again c' => c'.quiet = true ∧ codeAny (model P0 w) A c' (fun r' s' => ∃ X tk h' k, r' = Except.ok (Flow.ret (Value.str X tk)) ∧ X.cps.toList = cat l ++ r ∧ s' = { s with heap := h', toks := k } ∧ ∀ (b : Addr) (o : Obj), b ≠ D → s.heap.get? b = some o → h'.get? b = some o) s')
          (fun e s' => ∃ X tk h' k, (Except.error e : Result) = Except.ok (Flow.ret (Value.str X tk)) ∧ X.cps.toList = cat l ++ r ∧ s' = { s with heap := h', toks := k } ∧ ∀ (b : Addr) (o : Obj), b ≠ D → s.heap.get? b = some o → h'.get? b = some o) s₁ := by
      rintro s₁ l₁ ep₁ ho₁ hw₁ hc₁ ⟨h₁, k₁, rfl⟩ hk₁
      refine wpAny_bind (slice_ok (by show x.cps.size ≤ _; omega) ?_)
      refine wpAny_bind (wpAny_seqItems ho₁ rfl ?_)
      have e0 : (⟨x.cps.extract 0 0⟩ : Str) = ⟨#[]⟩ := by simp
      cases l₁ with
      | nil =>
        refine wpAny_bind (wpAny_pure (wpAny_pure ⟨_, _, _, _, rfl, ?_, rfl, hk₁⟩))
        rw [← hc₁]; simp [cat, tgt]
      | cons p l₁ =>
        show wpAny _ _ (call (.builtin "str.join") [.str ⟨x.cps.extract 0 0⟩ _, .ref D] >>= _) _ _ _
        rw [e0]
        refine wpAny_bind (SC.join (l := p :: l₁) ⟨_, ho₁, rfl, _, rfl⟩ rfl (joinOk_of ?_) fun t' k => wpAny_pure ⟨_, _, _, _, rfl, ?_, rfl, hk₁⟩)
        · show (((p :: l₁).map (·.1)).map (·.length)).sum + _ * 0 ≤ _
          rw [List.map_map]
          have : weigh (p :: l₁) = ((p :: l₁).map ((·.length) ∘ (·.1))).sum := rfl
          omega
        · rw [← hc₁, beq_iff_eq.mp (join_plain_closes ⟨#[]⟩ ((p :: l₁).map (·.1)))]; exact join_cat (p :: l₁)
    by_cases hlt : d < x.cps.size
    · show wpAny _ _ (if d < x.cps.size then _ else _) _ _ _
      rw [if_pos hlt]
      refine wpAny_bind (slice_ok (by show x.cps.size ≤ _; omega) ?_)
      refine wpAny_bind (pushP ho (by omega) fun h' ep' ho' hk' => ?_)
      refine fin _ _ _ ho' ?_ ?_ ⟨_, _, rfl⟩ hk'
      · rw [weigh_snoc]; show _ + (x.cps.extract d x.cps.size).size ≤ _; rw [Array.size_extract]; omega
      · rw [cat_snoc, hr]; rfl
    · show wpAny _ _ (if d < x.cps.size then _ else _) _ _ _
      rw [if_neg hlt]
      refine fin _ l ep ho (by omega) ?_ ⟨_, _, rfl⟩ fun _ _ _ e => e
      have : d = x.cps.size := by omega
      rw [hr, this]; simp
  | @hit d p r r' h1 h2 hc hs hr ih =>
    intro l n s ep hK ho hd hl hw
    refine codeAny_builtin entry_loop ?_
    unfold Builtin.«re.Pattern.sub.loop»
    refine wpAny_bind (hP _ _ _ _ _ _ hK ?_)
    show wpAny _ _ (reLiteralCannotBeTurned (Value.str R tr) >>= _) _ _ _
    refine wpAny_bind (wpAny_bind (wpAny_pure (wpAny_pure ?_)))
    show wpAny _ _ (reRunToEnd (Sre.forSearch code x.cps 0 d x.cps.size false) >>= _) _ _ _
    refine wpAny_bind (toEnd_hit hc (by omega) fun m e1 e2 => ?_)
    have next : ∀ (s₁ : Shared) (l₁ : List (Str × Tok)) (ep₁ : Nat), s₁.heap.get? D = some (lobj l₁ ep₁) → l₁.length ≤ 2 * d + 1 → weigh l₁ ≤ 3 * d + (p - d) → cat l₁ = cat l ++ (x.cps.extract d p).toList → (∃ h₁ k₁, s₁ = { s with heap := h₁, toks := k₁ }) →
        (∀ b o, b ≠ D → s.heap.get? b = some o → s₁.heap.get? b = some o) → wpAny (model P0 w) (A.under (Code.builtin "re.Pattern.sub.loop" { pos := [Value.ref pa, Value.str x t, Value.str R tr, Value.int 0 0, Value.int 0 0, Value.int n 0, Value.int d 0, Value.int d 0, Value.bool false, Value.ref D, Value.bool false] }))
          (updateSeq D (fun x => x.push (Value.str R tr)) >>= fun _ => again (Code.builtin "re.Pattern.sub.loop" { pos := [Value.ref pa, Value.str x t, Value.str R tr, rawInt 0, rawInt 0, rawInt (n + 1), rawInt m.handed, rawInt m.handed, Value.bool (m.handed == m.start), Value.ref D, Value.bool false] }))
          (fun fin s' => match fin with
      | Fin.done f => ∃ X tk h' k, (Except.ok f : Result) = Except.ok (Flow.ret (Value.str X tk)) ∧ X.cps.toList = cat l ++ r' ∧ s' = { s with heap := h', toks := k } ∧ ∀ (b : Addr) (o : Obj), b ≠ D → s.heap.get? b = some o → h'.get? b = some o
      | Fin.again c' => c'.quiet = true ∧ codeAny (model P0 w) A c' (fun r'' s' => ∃ X tk h' k, r'' = Except.ok (Flow.ret (Value.str X tk)) ∧ X.cps.toList = cat l ++ r' ∧ s' = { s with heap := h', toks := k } ∧ ∀ (b : Addr) (o : Obj), b ≠ D → s.heap.get? b = some o → h'.get? b = some o) s')
          (fun e s' => ∃ X tk h' k, (Except.error e : Result) = Except.ok (Flow.ret (Value.str X tk)) ∧ X.cps.toList = cat l ++ r' ∧ s' = { s with heap := h', toks := k } ∧ ∀ (b : Addr) (o : Obj), b ≠ D → s.heap.get? b = some o → h'.get? b = some o) s₁ := by
      rintro s₁ l₁ ep₁ ho₁ hl₁ hw₁ hc₁ ⟨h₁, k₁, rfl⟩ hk₁
      refine wpAny_bind (pushP ho₁ (by omega) fun h' ep' ho' hk' => wpAny_pure ⟨plainId_quiet plain_loop _, ?_⟩)
      rw [e1, e2, show (p + 1 == p) = false by simp]
      have hK' : (KF w.params).In h' := fun a o e => hk' a o (fun q => ?_) (hk₁ a o (fun q => ?_) (hK a o e))
      · refine codeAny_mono (ih (l₁ ++ [(R, tr)]) (n + 1) { s with heap := h', toks := k₁ } ep' hK' ho' (by omega) (by simp; omega) ?_) fun r'' s' hr'' => ?_
        · rw [weigh_snoc]; omega
        · obtain ⟨X, tk, h'', k'', a1, a2, a3, a4⟩ := hr''
          refine ⟨X, tk, h'', k'', a1, ?_, a3, fun b o nb e => a4 b o nb (hk' b o nb (hk₁ b o nb e))⟩
          rw [a2, cat_snoc, hc₁, hr]; simp
      · exact kf_low e (q ▸ hD)
      · exact kf_low e (q ▸ hD)
    by_cases hlt : d < p
    · show wpAny _ _ (if d < m.start then _ else _) _ _ _
      rw [if_pos (by omega)]
      refine wpAny_bind (slice_ok (by show x.cps.size ≤ _; omega) ?_)
      refine wpAny_bind (pushP ho (by omega) fun h' ep' ho' hk' => ?_)
      refine next _ _ _ ho' (by simp; omega) ?_ ?_ ⟨_, _, rfl⟩ hk'
      · rw [weigh_snoc]; show _ + (x.cps.extract d m.start).size ≤ _; rw [Array.size_extract, e1]; omega
      · rw [cat_snoc, e1]; rfl
    · show wpAny _ _ (if d < m.start then _ else _) _ _ _
      rw [if_neg (by omega)]
      refine next _ l ep ho (by omega) (by omega) ?_ ⟨_, _, rfl⟩ fun _ _ _ e => e
      have : p = d := by omega
      rw [this]; simp
end
end Mine
end
noncomputable section
open PySem PySem.W PyProof.Rows PySem.Calls PySem.Builtin.Re
set_option maxRecDepth 100000
namespace Mine
theorem named_sub (a b : Value) : reNamed "re.Pattern.sub" "sub" ["repl", "string", "count"] 2 [a, b] [] = pure [some a, some b, none] := by kernel_rfl
theorem str_call_none : typeLookup (.type "str") "__call__" = pure none := by rw [typeLookup_type, builtinLookup_eq_fast]; kernel_rfl
section
variable {w : World}
theorem c_sub {A : Around} {E : Value → Shared → Prop} {s : Shared} {pa : Addr} {code : Array Nat} {o : Obj} (hP : PatAt w pa code) {x R : Str} {t tr : Tok} (hx : x.cps.size ≤ 10000) (hR : R.length ≤ 2) (hR' : R.cps.contains 92 = false) {rest : List Nat}
    (S : Sub code x.cps R 0 rest) (hK : (KF w.params).In s.heap) (ho : (KF w.params).lookup pa = some o) (hc : o.cls = .type "re.Pattern") {Q : Value → Shared → Prop}
    (h : ∀ X tk h' k, X.cps.toList = rest → (∀ b o, s.heap.get? b = some o → h'.get? b = some o) → Q (.str X tk) { s with heap := h', toks := k }) :
    wpAny (model P0 w) A (call (.builtin "re.Pattern.sub") [.ref pa, .str R tr, .str x t]) Q E s := by
  have hT : s.TypeIs (.ref pa) "re.Pattern" := ⟨o, hK _ _ ho, hc⟩
  refine wpAny_call (codeAny_call_builtin slot_sub.plain entry_sub (slot_sub.check _ _ _ _ _ _ _ _ hT (args_sub _ _ _) ?_))
  show wpAny _ _ (reNamed "re.Pattern.sub" "sub" ["repl", "string", "count"] 2 [.str R tr, .str x t] [] >>= _) _ _ _
  rw [named_sub]
  refine wpAny_bind (wpAny_pure ?_)
  refine wpAny_bind (m := (pure 0 : Sem Int)) (wpAny_pure ?_)
  refine wpAny_bind (wpAny_specialOf (typeIs_str _ _ _) str_call_none ?_)
  refine wpAny_bind (m := asStr? (.str R tr)) (wpAny_pure ?_)
  refine wpAny_bind (m := (pure (!R.cps.contains 92) : Sem Bool)) (wpAny_pure ?_)
  rw [hR']
  refine wpAny_bind (m := (pure (Value.str R tr, (0 : Int)) : Sem (Value × Int))) (wpAny_pure ?_)
  refine wpAny_bind (wpAny_holding (hP _ _ _ _ _ _ hK ?_))
  refine wpAny_bind (m := newList []) (wpAny_newObj_type ?_ (by show ([] : List Value).toArray.size ≤ sizeLine; decide))
  refine wpAny_pure ⟨plainId_quiet plain_loop _, ?_⟩
  have hlow : 151 ≤ s.heap.objs.size := Heap.lt_size (hK 150 _ rfl)
  have hK' : (KF w.params).In (s.heap.push { cls := .type "list", data := .seq ([] : List Value).toArray }) := hK.keeps fun _ _ e => Heap.get?_push_of_some _ e
  refine codeAny_mono (sub_loop (A := A) hP hx hR hlow S [] 0 _ 0 hK' (Heap.get?_push_size _ rfl) (Nat.zero_le _) (Nat.zero_le _) (Nat.zero_le _)) ?_
  rintro r s' ⟨X, tk, h', k, rfl, e2, rfl, hk⟩
  exact h X tk h' k (by rw [e2]; rfl) fun b o e => hk b o (Nat.ne_of_lt (Heap.lt_size e)) (Heap.get?_push_of_some _ e)
end
end Mine
end
noncomputable section
open PySem PySem.W PyProof.Rows PySem.Calls
set_option maxRecDepth 100000
namespace Mine
theorem runs_toks {M : Model} {Γ : Ctx} {p : Pos} {t : Sem PySem.Fin} {fs : List PySem.Frame} {s s' : Shared} {e : End} (h : Runs M Γ p t fs s e s') : s.toks ≤ s'.toks := by
  induction h with
  | done | raise | «yield» => exact Nat.le_refl _
  | again _ _ ih | rule _ ih | «at» _ ih | load _ _ ih | update _ _ ih | loadIfAlive _ ih | point _ ih | alloc _ ih | ask _ ih | choose _ _ ih | os _ ih | handled _ ih | genState _ _ ih | stack _ ih | thread _ ih | newGen _ ih
  | callSusp _ ih | resumeJustStarted _ _ _ ih | resumeThrowFresh _ _ ih | resumeRunning _ _ ih | resumeFinished _ _ ih | segSuspOut _ _ ih => exact ih
  | fresh _ ih => exact Nat.le_trans (Nat.le_succ _) ih
  | call _ _ ih1 ih2 | segRet _ _ ih1 ih2 | segGen _ _ ih1 ih2 => exact Nat.le_trans ih1 ih2
  | resumeFresh _ _ _ _ ih1 ih2 | resumeSuspended _ _ _ _ ih1 ih2 | segSuspGen _ _ _ _ ih1 ih2 => exact Nat.le_trans ih1 ih2
theorem wp_toks {α : Type} {M : Model} {Γ : Ctx} (t : Sem α) : ∀ {Q : α → Pos → Shared → Prop} {E : Value → Pos → Shared → Prop} {p : Pos} {s : Shared} (k : Nat), k ≤ s.toks → Sem.wp M Γ t Q E p s →
    Sem.wp M Γ t (fun a p' s' => k ≤ s'.toks ∧ Q a p' s') (fun e p' s' => k ≤ s'.toks ∧ E e p' s') p s := by
  induction t with
  | pure a => intro Q E p s k hk h; exact ⟨hk, h⟩
  | raise e => intro Q E p s k hk h; exact ⟨hk, h⟩
  | unsupported | finish | «yield» | fork | await | register => intro Q E p s k hk h; exact h
  | rule _ c ih | «at» _ c ih | alloc _ c ih | loadIfAlive _ c ih | point _ c ih | ask c ih | os _ _ c ih | handled _ c ih | newGen _ c ih | stack c ih | thread c ih => intro Q E p s k hk h; exact ih _ k hk h
  | fresh c ih => intro Q E p s k hk h; exact ih _ k (Nat.le_succ_of_le hk) h
  | load a _ c ih | genState a c ih => intro Q E p s k hk h; obtain ⟨o, ho, h⟩ := h; exact ⟨o, ho, ih _ k hk h⟩
  | update a _ f c ih | choose _ _ c ih => intro Q E p s k hk h; exact ⟨h.1, ih _ k hk h.2⟩
  | call c h' g l kk ih => intro Q E p s k hk h; obtain ⟨r, s', hr, h⟩ := h; exact ⟨r, s', hr, ih r k (Nat.le_trans hk (runs_toks hr)) h⟩
  | resume g r l kk ih =>
    intro Q E p s k hk h
    obtain ⟨res, s', hw, h⟩ := h
    refine ⟨res, s', hw, ih _ k (Nat.le_trans hk ?_) h⟩
    unfold Wakes at hw
    split at hw
    · exact hw.elim
    · split at hw
      · obtain ⟨e₁, s₁, h1, _, _, rfl⟩ := hw; have q := runs_toks h1; exact q
      · obtain ⟨_, rfl⟩ := hw; exact Nat.le_refl _
      · obtain ⟨_, rfl⟩ := hw; exact Nat.le_refl _
    · obtain ⟨e₁, s₁, h1, _, _, rfl⟩ := hw; have q := runs_toks h1; exact q
    · obtain ⟨_, rfl⟩ := hw; exact Nat.le_refl _
    · obtain ⟨_, rfl⟩ := hw; exact Nat.le_refl _
/-- the count of things made never falls -/
theorem toksUp {α : Type} {M : Model} {A : Around} {E : Value → Shared → Prop} {s : Shared} {t : Sem α} {Q : α → Shared → Prop} (h : wpAny M A t (fun a s' => s.toks ≤ s'.toks → Q a s') E s) : wpAny M A t Q E s := fun Γ p hΓ =>
  Sem.wp_mono M Γ t (fun _ _ _ h' => h'.2 h'.1) (fun _ _ _ h' => h'.2) p s (wp_toks t s.toks (Nat.le_refl _) (h Γ p hΓ))
end Mine
end
noncomputable section
open PySem PySem.W PyProof.Rows PySem.Calls Builtin.Str
set_option maxRecDepth 100000
namespace Mine
open StrLaws (At ChainG partsFrom)
/-- each y (taken from the left) turned into z -/
def subR (y z : List Nat) : Nat → List Nat → List Nat
  | 0, l => l
  | n + 1, l => if l.take y.length == y then z ++ subR y z n (l.drop y.length) else match l with
    | [] => []
    | c :: t => c :: subR y z n t
theorem at_iff (x y : Str) (a : Nat) (hy : 1 ≤ y.length) : At x y x.length a ↔ (x.cps.toList.drop a).take y.cps.toList.length = y.cps.toList := by
  unfold At
  rw [StrLaws.subAt_eq, beq_iff_eq]
  have hl : y.cps.toList.length = y.length := by simp [Str.length]
  rw [hl]
  constructor
  · exact fun h => h.2
  · intro h
    refine ⟨?_, h⟩
    have := congrArg List.length h
    simp only [List.length_take, List.length_drop] at this
    have e : x.cps.toList.length = x.length := by simp [Str.length]
    omega
theorem join_first (z p : Str) (c : Nat) : ∀ r : List Str, (Str.join z ((⟨#[c]⟩ ++ p) :: r)).cps.toList = c :: (Str.join z (p :: r)).cps.toList
  | [] => by show ((⟨#[c]⟩ : Str) ++ p).cps.toList = _; rw [Str.cps_append]; simp [Str.join]
  | q :: r => by
    show ((⟨#[c]⟩ : Str) ++ p ++ z ++ Str.join z (q :: r)).cps.toList = c :: (p ++ z ++ Str.join z (q :: r)).cps.toList
    simp [Str.cps_append]
theorem sub_step (x : Str) {a b : Nat} (h : a < b) (hb : b ≤ x.length) : ∃ c, x.cps.toList.drop a = c :: x.cps.toList.drop (a + 1) ∧ strSub x a b = ⟨#[c]⟩ ++ strSub x (a + 1) b := by
  have hl : a < x.cps.toList.length := by have : x.cps.toList.length = x.length := by simp [Str.length]
                                          omega
  refine ⟨x.cps.toList[a], List.drop_eq_getElem_cons hl, Str.ext' (Array.toList_inj.mp ?_)⟩
  rw [StrLaws.strSub_toList, Str.cps_append, Array.toList_append, StrLaws.strSub_toList, List.drop_eq_getElem_cons hl, show b - a = (b - (a + 1)) + 1 by omega, List.take_succ_cons]
  rfl
theorem join_parts (x y z : Str) (hy : 1 ≤ y.length) : ∀ (n a : Nat) (cuts : List Nat) (f : Nat), x.length - a < n → a ≤ x.length → ChainG x y x.length a cuts f → (∀ k, f ≤ k → ¬ At x y x.length k) →
    (Str.join z (partsFrom x y.length a cuts)).cps.toList = subR y.cps.toList z.cps.toList n (x.cps.toList.drop a) := by
  intro n
  have ex : x.cps.toList.length = x.length := by simp [Str.length]
  have ey : y.cps.toList.length = y.length := by simp [Str.length]
  induction n with
  | zero => intro a cuts f h; omega
  | succ n ih =>
    intro a cuts f hn ha hc hf
    unfold subR
    by_cases hA : At x y x.length a
    · rw [if_pos (by rw [beq_iff_eq]; exact (at_iff x y a hy).mp hA)]
      cases cuts with
      | nil => obtain rfl : f = a := hc; exact absurd hA (hf _ (Nat.le_refl _))
      | cons c r =>
        obtain ⟨h1, h2, h3, h4⟩ := hc
        obtain rfl : c = a := by
          by_cases q : a < c
          · exact absurd hA (h3 a (Nat.le_refl _) q)
          · omega
        have hle : c + y.length ≤ x.length := hA.1
        have := ih (c + y.length) r f (by omega) hle h4 hf
        obtain ⟨p, q, e⟩ := StrLaws.partsFrom_ne x y.length (c + y.length) r
        show (Str.join z (strSub x c c :: partsFrom x y.length (c + y.length) r)).cps.toList = _
        rw [e] at this ⊢
        show (strSub x c c ++ z ++ Str.join z (p :: q)).cps.toList = _
        rw [Str.cps_append, Str.cps_append, Array.toList_append, Array.toList_append, this, StrLaws.strSub_toList, List.drop_drop, ey]
        simp
    · rw [if_neg (by rw [beq_iff_eq]; exact fun q => hA ((at_iff x y a hy).mpr q))]
      by_cases hlt : a < x.length
      · have hc' : ∃ f', ChainG x y x.length (a + 1) cuts f' ∧ ∀ k, f' ≤ k → ¬ At x y x.length k := by
          cases cuts with
          | nil => obtain rfl : f = a := hc; exact ⟨_, rfl, fun k hk => hf k (by omega)⟩
          | cons c r =>
            obtain ⟨h1, h2, h3, h4⟩ := hc
            have : c ≠ a := fun q => hA (q ▸ h2)
            exact ⟨f, ⟨by omega, h2, fun k k1 k2 => h3 k (by omega) k2, h4⟩, hf⟩
        obtain ⟨f', hc', hf'⟩ := hc'
        have key := ih (a + 1) cuts f' (by omega) (by omega) hc' hf'
        have hne : ∀ c ∈ cuts.head?, a < c ∧ c ≤ x.length := by
          intro c hm
          cases cuts with
          | nil => cases hm
          | cons c' r =>
            obtain rfl : c' = c := by simpa using hm
            obtain ⟨h1, h2, h3, h4⟩ := hc
            have : c' ≠ a := fun q => hA (q ▸ h2)
            exact ⟨by omega, by have := h2.1; omega⟩
        obtain ⟨c0, e1, _⟩ := sub_step x hlt (Nat.le_refl _)
        rw [e1]
        dsimp only
        rw [← key]
        cases cuts with
        | nil =>
          obtain ⟨c1, e1', e2⟩ := sub_step x hlt (Nat.le_refl _)
          rw [e1'] at e1
          obtain rfl : c1 = c0 := by simpa using e1
          show (Str.join z [strSub x a x.length]).cps.toList = _
          rw [e2]; exact join_first z _ _ []
        | cons c r =>
          obtain ⟨q1, q2⟩ := hne c rfl
          obtain ⟨c1, e1', e2⟩ := sub_step x q1 q2
          rw [e1'] at e1
          obtain rfl : c1 = c0 := by simpa using e1
          show (Str.join z (strSub x a c :: partsFrom x y.length (c + y.length) r)).cps.toList = _
          rw [e2]; exact join_first z _ _ _
      · have hd : x.cps.toList.drop a = [] := List.drop_eq_nil_of_le (by omega)
        rw [hd]
        dsimp only
        cases cuts with
        | nil =>
          show (strSub x a x.length).cps.toList = []
          rw [StrLaws.strSub_toList, hd]; exact List.take_nil
        | cons c r =>
          obtain ⟨h1, h2, h3, h4⟩ := hc
          exfalso
          have := h2.1
          omega
theorem replace_subR (x y z : Str) (hy : 1 ≤ y.length) : (Txt.replace x y z).cps.toList = subR y.cps.toList z.cps.toList (x.length + 1) x.cps.toList := by
  obtain ⟨f, hc, hf⟩ := StrLaws.occ_tight x y hy
  have key := join_parts x y z hy (x.length + 1) 0 _ f (by omega) (Nat.zero_le _) hc hf
  rw [List.drop_zero] at key
  rw [← key]
  unfold Txt.replace
  have e0 : (y.length == 0) = false := by simp; omega
  rw [e0, Bool.false_and, Bool.or_false]
  split
  · rename_i h
    rw [List.isEmpty_iff] at h
    rw [h]
    show _ = (strSub x 0 x.length).cps.toList
    rw [StrLaws.sub_whole]
  · rw [StrLaws.glued_eq_join, StrLaws.partsBetween_eq]
theorem sum_join : ∀ l : List Str, (l.map (·.length)).sum = (Str.join ⟨#[]⟩ l).cps.toList.length
  | [] => rfl
  | x :: l => by
    rw [join_nil_cons, Str.cps_append, Array.toList_append, List.length_append, List.map_cons, List.sum_cons, sum_join l]
    simp [Str.length]
theorem split_sum (x y : Str) (hy : 1 ≤ y.length) (hk : Builtin.Str.strKind y = 1) : ((Txt.split x y).map (·.length)).sum = (subR y.cps.toList [] (x.length + 1) x.cps.toList).length := by
  obtain ⟨f, hc, hf⟩ := StrLaws.occ_tight x y hy
  have key := join_parts x y ⟨#[]⟩ hy (x.length + 1) 0 _ f (by omega) (Nat.zero_le _) hc hf
  rw [List.drop_zero] at key
  rw [sum_join]
  have hparts : Txt.split x y = partsFrom x y.length 0 (occurrences x y 0 x.length (x.length + 1)) := by
    unfold Txt.split
    have hnone : (occurrences x y 0 x.length (x.length + 1)) = [] → [x] = partsFrom x y.length 0 (occurrences x y 0 x.length (x.length + 1)) := fun h => by
      rw [h]; show [x] = [strSub x 0 x.length]; rw [StrLaws.sub_whole]
    split
    · rename_i h
      rw [Bool.or_eq_true, decide_eq_true_eq, decide_eq_true_eq] at h
      rcases h with h | h
      · apply hnone
        cases hq : occurrences x y 0 x.length (x.length + 1) with
        | nil => rfl
        | cons c r => rw [hq] at hc; have := hc.2.1.1; omega
      · exfalso
        rw [hk] at h
        have : 1 ≤ Builtin.Str.strKind x := by unfold Builtin.Str.strKind; split <;> (try split) <;> omega
        omega
    · split
      · rename_i h; exact hnone (List.isEmpty_iff.mp h)
      · rw [StrLaws.partsBetween_eq]
  rw [hparts, key]
open Bbs
theorem subR_one (a b : Nat) : ∀ (n : Nat) (l : List Nat), l.length < n → subR [a] [b] n l = l.map fun c => if c = a then b else c := by
  intro n
  induction n with
  | zero => intro l h; omega
  | succ n ih =>
    intro l h
    cases l with
    | nil => simp [subR]
    | cons c t =>
      have it := ih t (by simp at h; omega)
      unfold subR
      by_cases q : c = a
      · subst q; simp [it]
      · simp [q, it]
theorem subR_elim : ∀ (n : Nat) (t : List Bool), t.length < n → subR [46, 10] [] n (t.map sgn) = (elim t).map sgn := by
  intro n
  induction n using Nat.strongRecOn with
  | ind n ih =>
    intro t h
    obtain ⟨n, rfl⟩ : ∃ k, n = k + 1 := ⟨n - 1, by omega⟩
    match t with
    | [] => simp [subR, elim]
    | [true] => 
      unfold subR
      simp [elim, sgn]
      cases n with
      | zero => rfl
      | succ n => simp [subR]
    | [false] =>
      unfold subR
      simp [elim, sgn]
      cases n with
      | zero => rfl
      | succ n => simp [subR]
    | false :: c :: t =>
      have it := ih n (by omega) (c :: t) (by simp at h ⊢; omega)
      unfold subR
      rw [elim, List.map_cons, List.map_cons (f := sgn) (a := false), ← it]
      simp [sgn]
    | true :: false :: t =>
      have it := ih n (by omega) t (by simp at h; omega)
      unfold subR
      rw [elim, ← it]
      simp [sgn]
    | true :: true :: t =>
      have it := ih n (by omega) (true :: t) (by simp at h ⊢; omega)
      unfold subR
      rw [elim, List.map_cons, List.map_cons (f := sgn) (a := true) (l := elim (true :: t)), ← it]
      simp [sgn]
/-- the boxes as rows, each dot that opens a row doubled -/
def quo : Bool → List Bool → List Nat
  | _, [] => []
  | atl, true :: t => (if atl then [46, 46] else [46]) ++ quo false t
  | _, false :: t => [13, 10] ++ quo true t
theorem subR_quo : ∀ (t : List Bool) (n : Nat) (atl : Bool), (quo atl t).length < n → (subR [13, 10] [] n (quo atl t)).length = balls t + starts (!atl) t
  | [], n, atl, h => by
    obtain ⟨n, rfl⟩ : ∃ k, n = k + 1 := ⟨n - 1, by omega⟩
    simp [quo, subR, balls, starts]
  | true :: t, n, true, h => by
    simp only [quo, if_true, List.length_append, List.length_cons, List.length_nil] at h
    obtain ⟨n, rfl⟩ : ∃ k, n = k + 2 := ⟨n - 2, by omega⟩
    have it := subR_quo t n false (by omega)
    show (subR [13, 10] [] (n + 2) (46 :: 46 :: quo false t)).length = _
    unfold subR
    simp only [List.length_cons, List.length_nil, List.take_succ_cons, List.take_zero, show ((([46, 46] : List Nat) == [13, 10]) = false) by decide, Bool.false_eq_true, if_false]
    unfold subR
    have : ((List.take 2 (46 :: quo false t)) == [13, 10]) = false := by simp
    simp only [List.length_cons, List.length_nil, this, Bool.false_eq_true, if_false]
    rw [it]
    simp [balls, starts]; omega
  | true :: t, n, false, h => by
    simp only [quo, Bool.false_eq_true, if_false, List.length_append, List.length_cons, List.length_nil] at h
    obtain ⟨n, rfl⟩ : ∃ k, n = k + 1 := ⟨n - 1, by omega⟩
    have it := subR_quo t n false (by omega)
    show (subR [13, 10] [] (n + 1) (46 :: quo false t)).length = _
    unfold subR
    have : ((List.take 2 (46 :: quo false t)) == [13, 10]) = false := by simp
    simp only [List.length_cons, List.length_nil, this, Bool.false_eq_true, if_false]
    rw [it]
    simp [balls, starts]; omega
  | false :: t, n, atl, h => by
    simp only [quo, List.length_append, List.length_cons, List.length_nil] at h
    obtain ⟨n, rfl⟩ : ∃ k, n = k + 1 := ⟨n - 1, by omega⟩
    have it := subR_quo t n true (by omega)
    show (subR [13, 10] [] (n + 1) (13 :: 10 :: quo true t)).length = _
    unfold subR
    simp [it, balls, starts]
theorem quo_length : ∀ (t : List Bool) (atl : Bool), (quo atl t).length ≤ 2 * t.length
  | [], _ => by simp [quo]
  | true :: t, atl => by have := quo_length t false; cases atl <;> simp [quo] <;> omega
  | false :: t, atl => by have := quo_length t true; simp [quo]; omega
theorem enc_toList (l : List Bool) : (enc l).cps.toList = l.map sgn := by simp [enc]
theorem enc_of_toList {x : Str} {l : List Bool} (h : x.cps.toList = l.map sgn) : x = enc l := Str.ext' (Array.toList_inj.mp (h.trans (enc_toList l).symm))
theorem replace_elim (t : List Bool) : Txt.replace (enc t) (Str.ofString ".\n") (Str.ofString "") = enc (elim t) := by
  refine enc_of_toList ?_
  rw [replace_subR _ _ _ (by decide +kernel), enc_toList, show (Str.ofString ".\n").cps.toList = [46, 10] by decide +kernel, show (Str.ofString "").cps.toList = [] by decide +kernel, enc_length]
  exact subR_elim _ t (Nat.lt_succ_self _)
theorem cnt_dots : ∀ t : List Bool, cnt 46 (t.map sgn) = (balls t : Nat)
  | [] => rfl
  | true :: t => by rw [List.map_cons, cnt_cons, cnt_dots t]; simp [sgn, balls]; omega
  | false :: t => by rw [List.map_cons, cnt_cons, cnt_dots t]; simp [sgn, balls]
theorem count_dots (t : List Bool) : Txt.count (enc t) (Str.ofString ".") = (balls t : Nat) := by
  rw [dot_eq, count_is, enc_toList]
  exact cnt_dots t
theorem mem_dots : ∀ t : List Bool, 46 ∈ t.map sgn ↔ balls t ≠ 0
  | [] => by simp [balls]
  | true :: t => by simp [sgn, balls]
  | false :: t => by rw [List.map_cons, List.mem_cons, mem_dots t]; simp [sgn, balls]
theorem in_dots (t : List Bool) : (!(occurrences (enc t) (Str.ofString ".") 0 (enc t).length 1).isEmpty) = decide (balls t ≠ 0) := by
  rw [dot_eq, StrLaws.found_one, enc_toList]
  exact decide_eq_decide.mpr (mem_dots t)
end Mine
end
noncomputable section
open PySem PySem.W PyProof.Rows PySem.Calls PySem.Builtin.Re
set_option maxRecDepth 100000
namespace Mine
open Bbs
def crlf : List Bool → List Nat
  | [] => []
  | true :: t => 46 :: crlf t
  | false :: t => 13 :: 10 :: crlf t
theorem crlf_length : ∀ t, (crlf t).length ≤ 2 * t.length
  | [] => by simp [crlf]
  | true :: t => by have := crlf_length t; simp [crlf]; omega
  | false :: t => by have := crlf_length t; simp [crlf]; omega
abbrev CR : Str := Str.ofString "\r\n"
theorem cr_list : CR.cps.toList = [13, 10] := by decide +kernel
theorem dd_list : (Str.ofString "..").cps.toList = [46, 46] := by decide +kernel
theorem getD_at {T : Array Nat} {pre l : List Nat} {c : Nat} (h : T.toList = pre ++ c :: l) : T.getD pre.length 0 = c := by
  have : T[pre.length]? = some c := by rw [← Array.getElem?_toList, h]; simp
  rw [Array.getD_eq_getD_getElem?, this]; rfl
theorem size_at {T : Array Nat} {pre l : List Nat} {c : Nat} (h : T.toList = pre ++ c :: l) : pre.length < T.size := by
  rw [← Array.length_toList, h]; simp
theorem ext_step {T : Array Nat} {pre l : List Nat} {c d : Nat} (h : T.toList = pre ++ c :: l) (hd : d ≤ pre.length) : (T.extract d (pre.length + 1)).toList = (T.extract d pre.length).toList ++ [c] := by
  rw [Array.toList_extract, Array.toList_extract, h]
  simp only [List.extract_eq_take_drop, List.drop_append, List.take_append]
  have e1 : pre.length + 1 - d - (pre.length - d) = 1 := by omega
  rw [show d - pre.length = 0 by omega, List.drop_zero, List.length_drop, e1, show pre.length - d - (pre.length - d) = 0 by omega]
  simp only [List.take_succ_cons, List.take_zero, List.append_nil]
  rw [List.take_of_length_le (by simp; omega), List.take_of_length_le (by simp)]
theorem ext_self (T : Array Nat) (d : Nat) : (T.extract d d).toList = [] := by simp
theorem sub2 {T : Array Nat} : ∀ (l : List Bool) (pre : List Nat) (d : Nat), T.toList = pre ++ l.map sgn → d ≤ pre.length → (∀ i, d ≤ i → i < pre.length → T.getD i 0 = 46) →
    Sub code2 T CR d ((T.extract d pre.length).toList ++ crlf l)
  | [], pre, d, h, hd, ha => by
    have hs : T.size = pre.length := by rw [← Array.length_toList, h]; simp
    refine .miss ((search2_miss fun i h1 h2 => ha i h1 (by omega)).le (by decide)) ?_
    rw [hs]; simp [crlf]
  | true :: l, pre, d, h, hd, ha => by
    have h' : T.toList = pre ++ 46 :: l.map sgn := h
    have := sub2 l (pre ++ [46]) d (by rw [h']; simp) (by simp; omega) (fun i h1 h2 => by
      by_cases q : i < pre.length
      · exact ha i h1 q
      · obtain rfl : i = pre.length := by simp at h2; omega
        exact getD_at h')
    rw [show (pre ++ [46] : List Nat).length = pre.length + 1 by simp, ext_step h' hd] at this
    simpa [crlf] using this
  | false :: l, pre, d, h, hd, ha => by
    have h' : T.toList = pre ++ 10 :: l.map sgn := h
    have := sub2 l (pre ++ [10]) (pre.length + 1) (by rw [h']; simp) (by simp) (fun i h1 h2 => by simp at h2; omega)
    rw [show (pre ++ [10] : List Nat).length = pre.length + 1 by simp, ext_self, List.nil_append] at this
    refine .hit hd (size_at h') ((search2_hit hd (size_at h') (getD_at h') ha).le (by decide)) this ?_
    rw [cr_list]; simp [crlf]
theorem notGood_of {T : Array Nat} {lim p : Nat} (h : T.getD p 0 ≠ 46) : ¬ good T lim p := fun g => h g.2.2
theorem sub1 {T : Array Nat} (hT : T.size ≤ 10000) : ∀ (l : List Bool) (pre : List Nat) (d : Nat) (atl : Bool), T.toList = pre ++ crlf l → d ≤ pre.length → atLine T pre.length = atl → (∀ i, d ≤ i → i < pre.length → ¬ good T T.size i) →
    Sub code1 T (Str.ofString "..") d ((T.extract d pre.length).toList ++ quo atl l)
  | [], pre, d, atl, h, hd, hat, ha => by
    have hs : T.size = pre.length := by rw [← Array.length_toList, h]; simp [crlf]
    refine .miss ((search1_miss fun i h1 h2 => ?_).le (by omega)) ?_
    · by_cases q : i < pre.length
      · exact ha i h1 q
      · exact fun g => by have := g.2.1; omega
    · rw [hs]; simp [quo]
  | true :: l, pre, d, true, h, hd, hat, ha => by
    have h' : T.toList = pre ++ 46 :: crlf l := h
    have hg : good T T.size pre.length := ⟨hat, size_at h', getD_at h'⟩
    have hat' : atLine T (pre ++ [46]).length = false := by
      unfold atLine
      simp [getD_at h']
    have := sub1 hT l (pre ++ [46]) (pre.length + 1) false (by rw [h']; simp) (by simp) hat' (fun i h1 h2 => by simp at h2; omega)
    rw [show (pre ++ [46] : List Nat).length = pre.length + 1 by simp, ext_self, List.nil_append] at this
    refine .hit hd (size_at h') ((search1_hit hd hg ha).le (by omega)) this ?_
    rw [dd_list]; simp [quo]
  | true :: l, pre, d, false, h, hd, hat, ha => by
    have h' : T.toList = pre ++ 46 :: crlf l := h
    have hat' : atLine T (pre ++ [46]).length = false := by
      unfold atLine
      simp [getD_at h']
    have := sub1 hT l (pre ++ [46]) d false (by rw [h']; simp) (by simp; omega) hat' (fun i h1 h2 => by
      by_cases q : i < pre.length
      · exact ha i h1 q
      · obtain rfl : i = pre.length := by simp at h2; omega
        exact fun g => by rw [g.1] at hat; cases hat)
    rw [show (pre ++ [46] : List Nat).length = pre.length + 1 by simp, ext_step h' hd] at this
    simpa [quo] using this
  | false :: l, pre, d, atl, h, hd, hat, ha => by
    have h' : T.toList = pre ++ 13 :: (10 :: crlf l) := h
    have h'' : T.toList = (pre ++ [13]) ++ 10 :: crlf l := by rw [h']; simp
    have g1 := getD_at h'
    have g2 := getD_at h''
    have hat' : atLine T (pre ++ [13] ++ [10]).length = true := by
      unfold atLine
      have : (pre ++ [13] ++ [10] : List Nat).length - 1 = (pre ++ [13] : List Nat).length := by simp
      rw [this, g2]; simp
    have := sub1 hT l (pre ++ [13] ++ [10]) d true (by rw [h'']; simp) (by simp; omega) hat' (fun i h1 h2 => by
      by_cases q : i < pre.length
      · exact ha i h1 q
      · simp at h2
        by_cases q2 : i = pre.length
        · rw [q2]; exact notGood_of (by rw [g1]; decide)
        · have q3 : i = (pre ++ [13] : List Nat).length := by simp; omega
          rw [q3]; exact notGood_of (by rw [g2]; decide))
    have e2 := ext_step h'' (d := d) (by simp; omega)
    have e1 := ext_step h' hd
    rw [show (pre ++ [13] ++ [10] : List Nat).length = (pre ++ [13] : List Nat).length + 1 by simp, e2, show (pre ++ [13] : List Nat).length = pre.length + 1 by simp, e1] at this
    simpa [quo] using this
theorem c_quote {w : World} {A : Around} {s : Shared} (hK : (KF w.params).In s.heap) (hd : A.depth < recursionLimit) (b : List Bool) (hb : b.length ≤ 3000) (t : Tok) :
    codeAny (model P0 w) A (.call (.ref 48) ⟨[.str (enc b) t], []⟩) (Post s fun v _ => ∃ X tk, v = .str X tk ∧ X.cps.toList = quo true b) s := by
  refine call_plain_ret (o := o48S6 w.params) (binds := [("data", .str (enc b) t)]) hd (hK _ _ rfl) rfl (nolimitF hK) (codeRec_of hK (by kernel_rfl)) rfl (locs (by rfl)) fun h₁ F => ?_
  have hK₁ := hK.keeps F.keep
  have noD : ∀ (pa : Addr) (o : Obj), (KF w.params).lookup pa = some o → o.dict = none → ∀ a, Value.ref pa = .ref a → ∃ o, h₁.get? a = some o ∧ o.dict = none := fun pa o e1 e2 a e => by cases e; exact ⟨o, hK₁ _ _ e1, e2⟩
  refine wpAny_execs_cons (wpAny_Return_some (MethodCall_ (gl hK₁ (v := .ref 36) (by kernel_rfl) ?_)))
  refine getMethod_builtin ⟨_, hK₁ 36 _ rfl, rfl⟩ pa_pat slot_sub type_sub (noD 36 _ rfl rfl) ?_
  refine callWith_method1 (args_cons (wpAny_Constant_str (args_cons (MethodCall_ (gl hK₁ (v := .ref 41) (by kernel_rfl) ?_)))))
  refine getMethod_builtin ⟨_, hK₁ 41 _ rfl, rfl⟩ pa_pat slot_sub type_sub (noD 41 _ rfl rfl) ?_
  refine callWith_method1 (args_cons (gl hK₁ (v := .str CR 342) (by kernel_rfl) (args_cons (ld F (by rfl) (args_nil ?_)))))
  have hs1 : (enc b).cps.size = b.length := enc_length b
  have S2 : Sub code2 (enc b).cps CR 0 (crlf b) := by
    have := sub2 (T := (enc b).cps) b [] 0 (by rw [enc_toList]; rfl) (Nat.zero_le _) (fun i _ h => by simp at h)
    simpa using this
  refine c_sub pat2 (by omega) (by decide +kernel) (by decide +kernel) S2 hK₁ (o := o41S6 w.params) (by rfl) rfl fun X tk h₂ k₂ eX kp => ?_
  have hK₂ := hK₁.keeps kp
  refine args_nil ?_
  have hs2 : X.cps.size = (crlf b).length := by rw [← Array.length_toList, eX]
  have hl := crlf_length b
  have S1 : Sub code1 X.cps (Str.ofString "..") 0 (quo true b) := by
    have := sub1 (T := X.cps) (by omega) b [] 0 true (by rw [eX]; rfl) (Nat.zero_le _) rfl (fun i _ h => by simp at h)
    simpa using this
  refine c_sub pat1 (by omega) (by decide +kernel) (by decide +kernel) S1 (by exact hK₂) (o := o36S6 w.params) (by rfl) rfl fun Y tk' h₃ k₃ eY kp' => ?_
  exact ⟨_, _, _, rfl, rfl, fun b o e => kp' b o (kp b o (F.keep b o e)), Y, tk', rfl, eY⟩
end Mine
end
noncomputable section
open PySem PySem.W PyProof.Rows PySem.Calls
set_option maxRecDepth 100000
namespace Mine
section
variable {prog : Program} {w : World} {A : Around} {R : Result → Shared → Prop} {s : Shared}
theorem lc_turns {elt target iter : Expr} {ifs : List Expr} {scope : Scope} {pos : Pos} {it acc : Value} {env : Env} (I : Nat → Shared → Prop)
    (turn : ∀ n s, I n s → wpAny (model prog w) A (pyNext it) (fun r s₁ => match r with
      | none => R (.ok .next) s₁
      | some v => wpAny (model prog w) A (letOwnedTupleGo target it v) (fun _ s₁' => wpAny (model prog w) A (assign target env v) (fun _ s₂ =>
          wpAny (model prog w) A (forIn ifs true fun c r => if r = true then do let ok ← isTrue c env (eval c env); pure (ForInStep.yield ok) else pure (ForInStep.yield r)) (fun ok s₃ =>
            if ok = true then wpAny (model prog w) A (eval elt env) (fun x s₄ =>
              wpAny (model prog w) A (call (.builtin "list.append") [acc, x]) (fun _ s₅ => ∃ m, m < n ∧ I m s₅) (notedBy (model prog w) A env fun e s' => R (.error e) s') s₄) (notedBy (model prog w) A env fun e s' => R (.error e) s') s₃
            else ∃ m, m < n ∧ I m s₃) (notedBy (model prog w) A env fun e s' => R (.error e) s') s₂) (notedBy (model prog w) A env fun e s' => R (.error e) s') s₁') (notedBy (model prog w) A env fun e s' => R (.error e) s') s₁) (notedBy (model prog w) A env fun e s' => R (.error e) s') s)
    (n : Nat) (h : I n s) :
    codeAny (model prog w) A (.compLoop (.ListComp elt [⟨target, iter, ifs, 0⟩] scope pos) 0 it acc env) R s := by
  refine codeAny_loop rfl I (fun n s hI => ?_) n h
  show wpAny _ A ((compTurn (.ListComp elt [⟨target, iter, ifs, 0⟩] scope pos) 0 it acc env).onRaise (fun x => do noteFrame x env; theTreesLotGoes x)) _ _ s
  refine wpAny_noted ?_
  rw [compTurn_list]
  refine wpAny_bind (wpAny_standAt (wpAny_bind (wpAny_mono (turn n s hI) (fun r s₁ h₁ => ?_) fun _ _ h' => h')))
  cases r with
  | none => exact wpAny_pure h₁
  | some v =>
    refine wpAny_bind (wpAny_mono h₁ (fun _ s₁' h₁' => ?_) fun _ _ h' => h')
    refine wpAny_bind (wpAny_mono h₁' (fun _ s₂ h₂ => wpAny_bind (wpAny_mono h₂ (fun ok s₃ h₃ => ?_) fun _ _ h' => h')) fun _ _ h' => h')
    cases ok with
    | false => exact wpAny_pure ⟨rfl, h₃⟩
    | true =>
      exact wpAny_bind (wpAny_bind (wpAny_mono h₃ (fun x s₄ h₄ => wpAny_bind (wpAny_mono h₄ (fun _ s₅ h₅ => wpAny_pure (wpAny_pure ⟨rfl, h₅⟩)) fun _ _ h' => h')) fun _ _ h' => h'))
/-- tuples stand -/
def TupKept (h h' : Heap) : Prop := ∀ b o, o.cls = .type "tuple" → (∃ vs n, o.data = .seq vs n) → h.get? b = some o → h'.get? b = some o
theorem lc_loop {α : Type} {elt target iter : Expr} {ifs : List Expr} {scope : Scope} {pos : Pos} {I ax D : Addr} {cenv : Env} {items : Array Value} {m : Str → Option Value}
    (as : List α) (p : α → Bool) (F : Heap → α → Value → Prop) (T : α → (Str → Option Value) → Prop) (hlen : as.length = items.size)
    (hF : ∀ h h' a y, F h a y → TupKept h h' → F h' a y)
    (hh : A.handled = none) 
    (hDI : D ≠ I) (hDC : D ≠ cenv.locals) (hIC : I ≠ cenv.locals) (haI : ax ≠ I) (haC : ax ≠ cenv.locals) (haD : ax ≠ D)
    (hit : s.heap.IsListIter I ax 0) (hl : s.heap.IsList ax items) (hacc : s.heap.IsList D #[]) (hn : s.heap.Ns cenv.locals m)
    (hassign : ∀ (i : Nat) v a s₂ m₂ (j : Nat) (Q : Unit → Shared → Prop), items[i]? = some v → as[i]? = some a → s₂.heap.Ns cenv.locals m₂ → s₂.heap.IsListIter I ax j → (∀ b o, b ≠ cenv.locals → b ≠ I → b ≠ D → s.heap.get? b = some o → s₂.heap.get? b = some o) →
      (∀ h' m' k, h'.Ns cenv.locals m' → T a m' → (∀ b o, b ≠ cenv.locals → s₂.heap.get? b = some o → h'.get? b = some o) → Q () { s₂ with heap := h', toks := k }) →
      wpAny (model prog w) A (letOwnedTupleGo target (.ref I) v) (fun _ s₁' => wpAny (model prog w) A (assign target cenv v) Q (notedBy (model prog w) A cenv fun e s' => R (.error e) s') s₁') (notedBy (model prog w) A cenv fun e s' => R (.error e) s') s₂)
    (htests : ∀ a s₂ m₂, a ∈ as → s₂.heap.Ns cenv.locals m₂ → T a m₂ → (∀ b o, b ≠ cenv.locals → b ≠ I → b ≠ D → s.heap.get? b = some o → s₂.heap.get? b = some o) →
      wpAny (model prog w) A (forIn ifs true fun c r => if r = true then do let ok ← isTrue c cenv (eval c cenv); pure (ForInStep.yield ok) else pure (ForInStep.yield r))
        (fun ok s₃ => ok = p a ∧ Keeps s₂ s₃) (notedBy (model prog w) A cenv fun e s' => R (.error e) s') s₂)
    (helt : ∀ a s₂ m₂, a ∈ as → p a = true → s₂.heap.Ns cenv.locals m₂ → T a m₂ → (∀ b o, b ≠ cenv.locals → b ≠ I → b ≠ D → s.heap.get? b = some o → s₂.heap.get? b = some o) →
      wpAny (model prog w) A (eval elt cenv) (fun y s₃ => F s₃.heap a y ∧ Keeps s₂ s₃) (notedBy (model prog w) A cenv fun e s' => R (.error e) s') s₂)
    (hR : ∀ h' tk m' ys, h'.Ns cenv.locals m' → h'.IsList D ys → Paired (F h') (as.filter p) ys.toList →
      (∀ b o, b ≠ cenv.locals → b ≠ I → b ≠ D → s.heap.get? b = some o → h'.get? b = some o) → R (.ok .next) { s with heap := h', toks := tk })
    (hsz : items.size ≤ sizeLine) :
    codeAny (model prog w) A (.compLoop (.ListComp elt [⟨target, iter, ifs, 0⟩] scope pos) 0 (.ref I) (.ref D) cenv) R s := by
  refine lc_turns
    (fun k s' => ∃ h' tk m' ys i, s' = { s with heap := h', toks := tk } ∧ h'.IsListIter I ax i ∧ h'.IsList ax items ∧ h'.IsList D ys ∧ h'.Ns cenv.locals m' ∧
      Paired (F h') ((as.take i).filter p) ys.toList ∧ i ≤ items.size ∧ k = items.size + 1 - i ∧
      ∀ b o, b ≠ cenv.locals → b ≠ I → b ≠ D → s.heap.get? b = some o → h'.get? b = some o) ?_ (items.size + 1)
    ⟨s.heap, s.toks, m, #[], 0, rfl, hit, hl, hacc, hn, by simpa using Paired.nil, Nat.zero_le _, rfl, fun _ _ _ _ _ e => e⟩
  rintro k s' ⟨H, tk, m', ys, i, rfl, hit', hl', hacc', hn', hP, hi, rfl, hk⟩
  have tup : ∀ H', (∀ b o, b ≠ cenv.locals → b ≠ I → b ≠ D → H.get? b = some o → H'.get? b = some o) → TupKept H H' := fun H' q b o hc hd e => by
    obtain ⟨vs, n, hd⟩ := hd
    refine q b o ?_ ?_ ?_ e
    · rintro rfl
      obtain ⟨o', _, _, e', d', _⟩ := hn'
      rw [e] at e'; cases e'; rw [hd] at d'; cases d'
    · rintro rfl
      obtain ⟨o', e', c', _⟩ := hit'
      rw [e] at e'; cases e'; rw [hc] at c'; exact absurd c' (by decide)
    · rintro rfl
      obtain ⟨o', e', c', _⟩ := hacc'
      rw [e] at e'; cases e'; rw [hc] at c'; exact absurd c' (by decide)
  cases hv : items[i]? with
  | none =>
    have hsz : items.size ≤ i := by simpa using hv
    refine wpAny_pyNext_list_end hh hit' hl' hv fun h₁ he₁ => ?_
    have kp : ∀ b o, b ≠ cenv.locals → b ≠ I → b ≠ D → H.get? b = some o → h₁.get? b = some o := fun b o _ hbI _ e => he₁ b o hbI e
    refine hR h₁ tk m' ys (hn'.extBut he₁ (Ne.symm hIC)) (hacc'.extBut he₁ hDI) ?_ fun b o hbC hbI hbD e => he₁ b o hbI (hk b o hbC hbI hbD e)
    rw [List.take_of_length_le (by omega)] at hP
    exact Paired.mono (fun a y q => hF _ _ _ _ q (tup _ kp)) hP
  | some v =>
    have hlt : i < items.size := (Array.getElem?_eq_some_iff.mp hv).1
    obtain ⟨a, ha⟩ : ∃ a, as[i]? = some a := ⟨as[i]'(by omega), List.getElem?_eq_getElem _⟩
    have hmem : a ∈ as := List.mem_of_getElem? ha
    refine wpAny_pyNext_list_item hit' hl' hv fun h₁ hit₁ hs₁ => ?_
    refine hassign i v a _ m' (i + 1) _ hv ha (hn'.sameBut hs₁ (Ne.symm hIC)) hit₁ (fun b o hbC hbI hbD e => hs₁.extBut b o hbI (hk b o hbC hbI hbD e)) fun h₂ m₂ k₂ hn₂ hT kp₂ => ?_
    have old₂ : ∀ b o, b ≠ cenv.locals → b ≠ I → H.get? b = some o → h₂.get? b = some o := fun b o hbC hbI e => kp₂ b o hbC (hs₁.extBut b o hbI e)
    refine wpAny_mono (htests a _ _ hmem hn₂ hT fun b o hbC hbI hbD e => old₂ b o hbC hbI (hk b o hbC hbI hbD e)) (fun ok s₃ h₃ => ?_) fun _ _ e => e
    obtain ⟨rfl, h₃, tk₃, rfl, hk₃⟩ := h₃
    have up₃ : ∀ b o, b ≠ cenv.locals → b ≠ I → H.get? b = some o → h₃.get? b = some o := fun b o hbC hbI e => hk₃ b o (old₂ b o hbC hbI e)
    have hit₃ : h₃.IsListIter I ax (i + 1) := by
      obtain ⟨o, e, r⟩ := hit₁
      exact ⟨o, hk₃ _ _ (kp₂ _ _ hIC e), r⟩
    have hl₃ : h₃.IsList ax items := hl'.at fun o e => up₃ ax o haC haI e
    have hacc₃ : h₃.IsList D ys := hacc'.at fun o e => up₃ D o hDC hDI e
    have hn₃ := hn₂.keeps hk₃
    cases hpv : p a with
    | false =>
      simp only [Bool.false_eq_true, if_false]
      refine ⟨items.size + 1 - (i + 1), by omega, h₃, tk₃, _, ys, i + 1, rfl, hit₃, hl₃, hacc₃, hn₃, ?_, hlt, rfl, fun b o hbC hbI hbD e => up₃ b o hbC hbI (hk b o hbC hbI hbD e)⟩
      rw [take_succ_filter p _ i a ha, hpv]
      simp only [Bool.false_eq_true, if_false, List.append_nil]
      exact Paired.mono (fun a y q => hF _ _ _ _ q (tup _ fun b o hbC hbI _ e => up₃ b o hbC hbI e)) hP
    | true =>
      simp only [if_true]
      refine wpAny_mono (helt a _ _ hmem hpv hn₃ hT fun b o hbC hbI hbD e => up₃ b o hbC hbI (hk b o hbC hbI hbD e)) (fun y s₄ h₄ => ?_) fun _ _ e => e
      obtain ⟨hFy, h₄, tk₄, rfl, hk₄⟩ := h₄
      have hys : ys.size ≤ sizeLine := by
        have e1 := hP.length
        have e2 : ((as.take i).filter p).length ≤ (as.take i).length := List.length_filter_le _ _
        have e3 : (as.take i).length ≤ items.size := by rw [List.length_take]; omega
        have e4 : ys.toList.length = ys.size := by simp
        omega
      have hacc₄ := hacc₃.at fun o e => hk₄ _ o e
      refine wpAny_list_append (hsz := hys) hacc₄ fun h₅ hl₅ hs₅ => ?_
      refine ⟨items.size + 1 - (i + 1), by omega, h₅, tk₄, _, ys.push y, i + 1, rfl, (hit₃.at fun o e => hk₄ _ o e).extBut hs₅.extBut (Ne.symm hDI), (hl₃.at fun o e => hk₄ _ o e).extBut hs₅.extBut haD, hl₅,
        (hn₃.keeps hk₄).sameBut hs₅ (Ne.symm hDC), ?_, hlt, rfl, fun b o hbC hbI hbD e => hs₅.extBut b o hbD (hk₄ b o (up₃ b o hbC hbI (hk b o hbC hbI hbD e)))⟩
      rw [take_succ_filter p _ i a ha, hpv]
      have t4 : TupKept h₄ h₅ := fun b o hc _ e => hs₅.extBut b o (by
        rintro rfl
        obtain ⟨o', e', c', _⟩ := hacc₄
        have e : h₄.get? b = some o := e
        have e' : h₄.get? b = some o' := e'
        rw [e] at e'; cases e'; rw [hc] at c'; exact absurd c' (by decide)) e
      have := Paired.snoc (Paired.mono (fun a y q => hF _ _ _ _ q (tup h₅ fun b o hbC hbI hbD e => hs₅.extBut b o hbD (hk₄ b o (up₃ b o hbC hbI e)))) hP) (hF _ _ _ _ hFy t4)
      simpa using this
end
end Mine
end
noncomputable section
open PySem PySem.W PyProof.Rows PySem.Calls
set_option maxRecDepth 100000
namespace Mine
section
variable {prog : Program} {w : World} {A : Around} {E : Value → Shared → Prop} {env : Env}
/-- what a list comprehension over a list asks of its parts -/
structure LcOk (prog : Program) (w : World) (A : Around) (env : Env) (scope : Scope) {α : Type} (target : Expr) (ifs : List Expr) (elt : Expr) (items : Array Value) (as : List α) (p : α → Bool)
    (F : Heap → α → Value → Prop) (T : α → (Str → Option Value) → Prop) (s₁ : Shared) : Prop where
  len : as.length = items.size
  size : items.size ≤ 1000
  mono : ∀ h h' a y, F h a y → TupKept h h' → F h' a y
  assign : ∀ C I ax (i : Nat) v a s₂ m₂ (j : Nat) (Q : Unit → Shared → Prop) (E' : Value → Shared → Prop), items[i]? = some v → as[i]? = some a → s₂.heap.Ns C m₂ → s₂.heap.IsListIter I ax j → (∀ b o, s₁.heap.get? b = some o → s₂.heap.get? b = some o) →
      (∀ h' m' k, h'.Ns C m' → T a m' → (∀ b o, b ≠ C → s₂.heap.get? b = some o → h'.get? b = some o) → Q () { s₂ with heap := h', toks := k }) →
      wpAny (model prog w) A (letOwnedTupleGo target (.ref I) v) (fun _ s₁' => wpAny (model prog w) A (PySem.assign target (compEnv scope C env) v) Q E' s₁') E' s₂
  tests : ∀ C a s₂ m₂ E', a ∈ as → s₂.heap.Ns C m₂ → T a m₂ → (∀ b o, s₁.heap.get? b = some o → s₂.heap.get? b = some o) → s₁.heap.objs.size ≤ C →
      wpAny (model prog w) A (forIn ifs true fun c r => if r = true then do let ok ← isTrue c (compEnv scope C env) (eval c (compEnv scope C env)); pure (ForInStep.yield ok) else pure (ForInStep.yield r))
        (fun ok s₃ => ok = p a ∧ Keeps s₂ s₃) E' s₂
  elt : ∀ C a s₂ m₂ E', a ∈ as → p a = true → s₂.heap.Ns C m₂ → T a m₂ → (∀ b o, s₁.heap.get? b = some o → s₂.heap.get? b = some o) → s₁.heap.objs.size ≤ C →
      wpAny (model prog w) A (eval elt (compEnv scope C env)) (fun y s₃ => F s₃.heap a y ∧ Keeps s₂ s₃) E' s₂
theorem lc_block {α : Type} {elt target iter : Expr} {ifs : List Expr} {scope : Scope} {pos : Pos} {s₁ : Shared} {ax : Addr} {items : Array Value} {as : List α} {p : α → Bool} {F : Heap → α → Value → Prop} {T : α → (Str → Option Value) → Prop}
    {RR : Value → Addr → Result → Shared → Prop} (ok : LcOk prog w A env scope target ifs elt items as p F T s₁) (hl : s₁.heap.IsList ax items) (hh : A.handled = none)
    (hcell : ∀ y ∈ scope.names, y.2 ≠ .cell) (hkind : scope.kind = .function) (hrel : relabel scope env = scope)
    (hRR : ∀ D C h' tk m' ys, s₁.heap.get? D = none → s₁.heap.get? C = none → D ≠ C → h'.Ns C m' → h'.IsList D ys → Paired (F h') (as.filter p) ys.toList →
      (∀ b o, s₁.heap.get? b = some o → h'.get? b = some o) → RR (.ref D) C (.ok .next) { s₁ with heap := h', toks := tk }) :
    wpAny (model prog w) A (pyIter (.ref ax)) (fun it s₂ => wpAny (model prog w) A (newList []) (fun acc s₃ => wpAny (model prog w) A (newFunctionEnv scope env.globals [] [] env.qual none .none (some env)) (fun cenv s₄ =>
      codeAny (model prog w) A (.compStart (.ListComp elt [⟨target, iter, ifs, 0⟩] scope pos) 0 it acc { cenv with scope := relabel scope env }) (RR acc cenv.locals) s₄) E s₃) E s₂) E s₁ := by
  rw [hrel]
  refine wpAny_pyIter_list hl (wpAny_newObj_type (hd := by size_fits) (wpAny_newFunctionEnv hcell (by intro y hy; simp at hy) (fun h₁ hns₁ hsb₁ => ?_) hkind))
  dsimp only at hns₁ hsb₁ ⊢
  obtain ⟨ol, hol, hol'⟩ := id hl
  have hax : ax < s₁.heap.objs.size := Heap.lt_size hol
  generalize hH1 : s₁.heap.push { cls := .type "list_iterator", data := .fields #[.ref ax, .int 0 0] } = H1 at hns₁ hsb₁ ⊢
  have hD : H1.objs.size = s₁.heap.objs.size + 1 := by rw [← hH1, Heap.size_push]
  generalize hH2 : H1.push { cls := .type "list", dict := none, data := .seq ([] : List Value).toArray } = H2 at hns₁ hsb₁ ⊢
  have hC : H2.objs.size = s₁.heap.objs.size + 2 := by rw [← hH2, Heap.size_push, hD]
  have hDI : H1.objs.size ≠ s₁.heap.objs.size := by rw [hD]; exact Nat.succ_ne_self _
  have hDC : H1.objs.size ≠ H2.objs.size := by rw [hD, hC]; exact Nat.ne_of_lt (Nat.lt_succ_self _)
  have hIC : s₁.heap.objs.size ≠ H2.objs.size := by rw [hC]; exact Nat.ne_of_lt (Nat.lt_succ_of_lt (Nat.lt_succ_self _))
  have hCle : s₁.heap.objs.size ≤ H2.objs.size := by rw [hC]; exact Nat.le_add_right _ _
  have below : ∀ b, b < s₁.heap.objs.size → b ≠ H2.objs.size ∧ b ≠ s₁.heap.objs.size ∧ b ≠ H1.objs.size := fun b hb =>
    ⟨by rw [hC]; exact Nat.ne_of_lt (Nat.lt_succ_of_lt (Nat.lt_succ_of_lt hb)), Nat.ne_of_lt hb, by rw [hD]; exact Nat.ne_of_lt (Nat.lt_succ_of_lt hb)⟩
  have old : ∀ b o, s₁.heap.get? b = some o → h₁.get? b = some o := fun b o e =>
    hsb₁.extBut b o (below b (Heap.lt_size e)).1 (Heap.get?_push_of_some _ (hH2 ▸ Heap.get?_push_of_some _ (hH1 ▸ Heap.get?_push_of_some _ e)))
  have hit : h₁.IsListIter s₁.heap.objs.size ax 0 :=
    ⟨_, hsb₁.extBut _ _ hIC (Heap.get?_push_of_some _ (hH2 ▸ Heap.get?_push_of_some _ (hH1 ▸ Heap.get?_push_size _ rfl))), rfl, rfl⟩
  have hacc : h₁.IsList H1.objs.size #[] := ⟨_, hsb₁.extBut _ _ hDC (Heap.get?_push_of_some _ (hH2 ▸ Heap.get?_push_size _ rfl)), rfl, _, rfl⟩
  have hl₁ : h₁.IsList ax items := ⟨ol, old _ _ hol, hol'⟩
  have fresh : ∀ a, s₁.heap.objs.size ≤ a → s₁.heap.get? a = none := fun a ha => by
    cases e : s₁.heap.get? a with
    | none => rfl
    | some o' => exact absurd (Heap.lt_size e) (Nat.not_lt.mpr ha)
  have loop : ∀ s₂ : Shared, s₂ = { s₁ with heap := h₁, toks := s₁.toks + ([] : List (Str × Value)).length } →
      codeAny (model prog w) A (.compLoop (.ListComp elt [⟨target, iter, ifs, 0⟩] scope pos) 0 (.ref s₁.heap.objs.size) (.ref H1.objs.size) (compEnv scope H2.objs.size env))
        (RR (.ref H1.objs.size) H2.objs.size) s₂ := by
    rintro s₂ rfl
    have back : ∀ {s₂ : Shared}, (∀ b o, b ≠ H2.objs.size → b ≠ s₁.heap.objs.size → b ≠ H1.objs.size → h₁.get? b = some o → s₂.heap.get? b = some o) → ∀ b o, s₁.heap.get? b = some o → s₂.heap.get? b = some o :=
      fun hk b o e => hk b o (below b (Heap.lt_size e)).1 (below b (Heap.lt_size e)).2.1 (below b (Heap.lt_size e)).2.2 (old b o e)
    refine lc_loop (cenv := compEnv scope H2.objs.size env) as p F T ok.len ok.mono hh hDI hDC hIC (below ax hax).2.1 (below ax hax).1 (below ax hax).2.2 hit hl₁ hacc hns₁
      (fun i v a s₂ m₂ j Q h1 h2 h3 h4 hk hq => ok.assign _ _ _ i v a s₂ m₂ j Q _ h1 h2 h3 h4 (back hk) hq)
      (fun a s₂ m₂ h1 h2 h3 hk => ok.tests _ a s₂ m₂ _ h1 h2 h3 (back hk) hCle)
      (fun a s₂ m₂ h1 h2 h3 h4 hk => ok.elt _ a s₂ m₂ _ h1 h2 h3 h4 (back hk) hCle) (fun h' tk m' ys hn ha hF hk => ?_) (by have := ok.size; rw [sizeLine_val]; omega)
    exact hRR _ _ h' tk m' ys (fresh _ (by rw [hD]; exact Nat.le_succ _)) (fresh _ hCle) hDC hn ha hF
      fun b o e => hk b o (below b (Heap.lt_size e)).1 (below b (Heap.lt_size e)).2.1 (below b (Heap.lt_size e)).2.2 (old b o e)
  exact codeAny_compStart_list (loop _ rfl) (wpAny_pyIter_listiter hit (loop _ rfl))
theorem lcE {α : Type} {s : Shared} {elt target iter : Expr} {ifs : List Expr} {scope : Scope} {pos : Pos} {Q : Value → Shared → Prop} (as : List α) (p : α → Bool) (F : Heap → α → Value → Prop) (T : α → (Str → Option Value) → Prop)
    (hh : A.handled = none)
    (h : wpAny (model prog w) A (eval iter env) (fun xv s₁ => ∃ ax items, xv = .ref ax ∧ s₁.heap.IsList ax items ∧ LcOk prog w A env scope target ifs elt items as p F T s₁ ∧
      (∀ D h' tk ys, s₁.heap.get? D = none → h'.IsList D ys → Paired (F h') (as.filter p) ys.toList → (∀ b o, s₁.heap.get? b = some o → h'.get? b = some o) → Q (.ref D) { s₁ with heap := h', toks := tk })) E s)
    (hclos : closureFor scope env = pure [] := by rfl) (hcell : ∀ y ∈ scope.names, y.2 ≠ .cell := by decide) (hkind : scope.kind = .function := by rfl) (hrel : relabel scope env = scope := by rfl)
    (hnames : ∀ x ∈ scope.names, x.2 = .local → scope.names.lookup x.1 = some .local := by decide) (hs : ∀ x, foldedSetIterable iter env x = pure x := by intro _; rfl) :
    wpAny (model prog w) A (eval (.ListComp elt [⟨target, iter, ifs, 0⟩] scope pos) env) Q E s := by
  rw [eval_ListComp]
  refine wpAny_comprehension_free (use := none) rfl hs hclos hkind hnames (wpAny_mono h (fun xv s₁ h₁ => ?_) fun _ _ e => e)
  obtain ⟨ax, items, rfl, hl, ok, hQ⟩ := h₁
  refine lc_block (RR := fun acc C => compPost (model prog w) A E none Q acc C) ok hl hh hcell hkind hrel ?_
  intro D C h' tk m' ys hD hC hDC hn hlD hF hk
  exact ⟨m', hn, fun h'' hs'' => hQ D h'' tk ys hD (hlD.extBut hs''.extBut hDC) (Paired.mono (fun a y q => ok.mono _ _ _ _ q fun b o hc hd e => hs''.extBut b o (by
    rintro rfl
    obtain ⟨o', _, _, e', d', _⟩ := hn
    obtain ⟨vs, n, hd⟩ := hd
    rw [e] at e'; cases e'; rw [hd] at d'; cases d') e) hF) fun b o e => hs''.extBut b o (by rintro rfl; rw [hC] at e; cases e) (hk b o e)⟩
end
end Mine
end
noncomputable section
open PySem PySem.W PyProof.Rows PySem.Calls
set_option maxRecDepth 100000
namespace Mine
section
variable {w : World} {A : Around} {E : Value → Shared → Prop} {name : Str} {sc : Scope} {L a : Addr} {cd : Value} {h₀ g : Heap} {m : Str → Option Value}
/-- `x = [..]` -/
theorem lcA {α : Type} {s : Shared} {elt target iter : Expr} {ifs : List Expr} {scope : Scope} {pos spos py : Pos} {y : Str} {Q : Flow → Shared → Prop} (as : List α) (p : α → Bool) (F : Heap → α → Value → Prop) (T : α → (Str → Option Value) → Prop)
    (hh : A.handled = none)
    (h : wpAny (model P0 w) A (eval iter (envOf name sc L a cd)) (fun xv s₁ => ∃ ax items, xv = .ref ax ∧ s₁.heap.IsList ax items ∧ LcOk P0 w A (envOf name sc L a cd) scope target ifs elt items as p F T s₁ ∧ FX h₀ g L s₁.heap m ∧
      (∀ D h' tk ys, s₁.heap.get? D = none → D ≠ L → h'.IsList D ys → Paired (F h') (as.filter p) ys.toList → FX h₀ g L h' (upd m y (.ref D)) → (∀ b o, b ≠ L → s₁.heap.get? b = some o → h'.get? b = some o) → Q .next { s₁ with heap := h', toks := tk })) E s)
    (hsw : swapsWith (.ListComp elt [⟨target, iter, ifs, 0⟩] scope pos) (some (.Name y py)) spos.line (envOf name sc L a cd) = pure true := by rfl)
    (hy : (envOf name sc L a cd).kindOf y = some .local := by rfl) (hk : sc.kind = .function := by rfl)
    (hclos : closureFor scope (envOf name sc L a cd) = pure [] := by rfl) (hcell : ∀ y ∈ scope.names, y.2 ≠ .cell := by decide) (hkind : scope.kind = .function := by rfl) (hrel : relabel scope (envOf name sc L a cd) = scope := by rfl)
    (hnames : ∀ x ∈ scope.names, x.2 = .local → scope.names.lookup x.1 = some .local := by decide) (hs : ∀ x, foldedSetIterable iter (envOf name sc L a cd) x = pure x := by intro _; rfl) :
    wpAny (model P0 w) A (exec (.Assign [.Name y py] (.ListComp elt [⟨target, iter, ifs, 0⟩] scope pos) spos) (envOf name sc L a cd)) Q E s := by
  rw [exec_Assign_Name_used _ _ _ _ hsw]
  refine wpAny_bind (wpAny_standAt (wpAny_bind ?_))
  show wpAny _ A (do let _ ← comprehension (.ListComp elt [⟨target, iter, ifs, 0⟩] scope pos) scope (envOf name sc L a cd) _ (newList []) false (eval iter (envOf name sc L a cd)) (some (assign (.Name y py) (envOf name sc L a cd)))) _ _ s
  refine wpAny_bind (wpAny_mono (wpAny_comprehension_free (use := some (assign (.Name y py) (envOf name sc L a cd))) (Q := fun _ s' => Q .next s') rfl hs hclos hkind hnames
    (wpAny_mono h (fun xv s₁ h₁ => ?_) fun _ _ e => e)) (fun _ s' hq => wpAny_pure (wpAny_pure hq)) fun _ _ e => e)
  obtain ⟨ax, items, rfl, hl, ok, f, hQ⟩ := h₁
  refine lc_block (RR := fun acc C => compPost (model P0 w) A E (some (assign (.Name y py) (envOf name sc L a cd))) (fun _ s' => Q .next s') acc C) ok hl hh hcell hkind hrel ?_
  intro D C h' tk m' ys hD hC hDC hnC hlD hF hkp
  have hLC : L ≠ C := by rintro rfl; obtain ⟨o, _, _, ho, _⟩ := f.F.ns; rw [hC] at ho; cases ho
  have hLD : L ≠ D := by rintro rfl; obtain ⟨o, _, _, ho, _⟩ := f.F.ns; rw [hD] at ho; cases ho
  have f' : FX h₀ g L h' m := f.keeps hkp
  show wpAny _ A (assign (.Name y py) (envOf name sc L a cd) (.ref D)) _ _ _
  refine wpAny_assign_Name (wpAny_storeName_local hy f'.F.ns (fun h₂ hn₂ hs₂ => ?_) (by show (sc.kind == .class || (sc.kind == .module && L != mainGlobals)) = false; rw [hk]; rfl))
  refine ⟨m', hnC.sameBut hs₂ (Ne.symm hLC), fun h₃ hs₃ => ?_⟩
  have tupL : ∀ (h₁ h₂ : Heap) (c : Addr) mc, h₁.Ns c mc → Heap.SameBut c h₁ h₂ → TupKept h₁ h₂ := fun h₁ h₂ c mc hn hs b o hc hd e => hs.extBut b o (by
    rintro rfl
    obtain ⟨o', _, _, e', d', _⟩ := hn
    obtain ⟨vs, n, hd⟩ := hd
    rw [e] at e'; cases e'; rw [hd] at d'; cases d') e
  have nC : ∀ b o, s₁.heap.get? b = some o → b ≠ C := fun b o e => by rintro rfl; rw [hC] at e; cases e
  have f₂ : FX h₀ g L h₂ (upd m y (.ref D)) := f'.set hn₂ hs₂
  have f₃ : FX h₀ g L h₃ (upd m y (.ref D)) :=
    ⟨⟨f₂.F.ns.sameBut hs₃ hLC, fun b o e => hs₃.extBut b o (nC b o (f.F.keep b o e)) (f₂.F.keep b o e), f₂.F.above⟩, fun b o n e => hs₃.extBut b o (nC b o (f.X b o n e)) (f₂.X b o n e)⟩
  refine hQ D h₃ _ ys hD (Ne.symm hLD) ((hlD.extBut hs₂.extBut (Ne.symm hLD)).extBut hs₃.extBut hDC) ?_ f₃ fun b o hb e => hs₃.extBut b o (nC b o e) (hs₂.extBut b o hb (hkp b o e))
  exact Paired.mono (fun a v q => ok.mono _ _ _ _ (ok.mono _ _ _ _ q (tupL _ _ _ _ f'.F.ns hs₂)) (tupL _ _ _ _ (hnC.sameBut hs₂ (Ne.symm hLC)) hs₃)) hF
end
section
variable {w : World} {A : Around} {E : Value → Shared → Prop} {s : Shared} {name : Str} {scope sc : Scope} {L a C : Addr} {cd : Value}
/-- names read inside a comprehension -/
theorem glC {x : Str} {pos : Pos} {v : Value} {Q : Value → Shared → Prop} (hK : (KF w.params).In s.heap) (hv : mgF w.params x = some v) (h : Q v s)
    (hk : sc.kind = .function := by rfl) (hl : (compEnv sc C (envOf name scope L a cd)).kindOf x = some .globalImplicit := by rfl) (hd : (x == ("__debug__" : Str)) = false := by decide) :
    wpAny (model P0 w) A (eval (.Name x pos) (compEnv sc C (envOf name scope L a cd))) Q E s :=
  Name_function_global hk hl (loadGlobal_global (env := compEnv sc C (envOf name scope L a cd)) (globalsF hK) hv h) hd
theorem gbC {x : Str} {pos : Pos} {v : Value} {Q : Value → Shared → Prop} (hK : (KF w.params).In s.heap) (hm : mgF w.params x = none) (hv : mbF w.params x = some v) (h : Q v s)
    (hk : sc.kind = .function := by rfl) (hl : (compEnv sc C (envOf name scope L a cd)).kindOf x = some .globalImplicit := by rfl) (hd : (x == ("__debug__" : Str)) = false := by decide) :
    wpAny (model P0 w) A (eval (.Name x pos) (compEnv sc C (envOf name scope L a cd))) Q E s :=
  Name_function_global hk hl (loadGlobal_builtin (env := compEnv sc C (envOf name scope L a cd)) (globalsF hK) hm (builtinsF hK) hv h) hd
theorem ldC {x : Str} {pos : Pos} {v : Value} {m : Str → Option Value} {Q : Value → Shared → Prop} (hn : s.heap.Ns C m) (hv : m x = some v) (h : Q v s)
    (hk : sc.kind = .function := by rfl) (hl : (compEnv sc C (envOf name scope L a cd)).kindOf x = some .local := by rfl) (hd : (x == ("__debug__" : Str)) = false := by decide) :
    wpAny (model P0 w) A (eval (.Name x pos) (compEnv sc C (envOf name scope L a cd))) Q E s := wpAny_Name (wpAny_loadName_local hk hl hn hv h) hd
/-- the target is a name -/
theorem asgN {x : Str} {px : Pos} {I : Addr} {v : Value} {s₂ : Shared} {m₂ : Str → Option Value} {Q : Unit → Shared → Prop} {E' : Value → Shared → Prop}
    (hn : s₂.heap.Ns C m₂)
    (hQ : ∀ h' m' k, h'.Ns C m' → m' x = some v → (∀ b o, b ≠ C → s₂.heap.get? b = some o → h'.get? b = some o) → Q () { s₂ with heap := h', toks := k })
    (hk : sc.kind = .function := by rfl) (hl : (compEnv sc C (envOf name scope L a cd)).kindOf x = some .local := by rfl) :
    wpAny (model P0 w) A (letOwnedTupleGo (.Name x px) (.ref I) v) (fun _ s₁' => wpAny (model P0 w) A (PySem.assign (.Name x px) (compEnv sc C (envOf name scope L a cd)) v) Q E' s₁') E' s₂ := by
  refine wpAny_pure ?_
  refine wpAny_assign_Name (wpAny_storeName_local hl hn (fun h₂ hn₂ hs₂ => ?_) (by show (sc.kind == .class || (sc.kind == .module && C != mainGlobals)) = false; rw [hk]; rfl))
  exact hQ h₂ _ _ hn₂ (if_pos rfl) hs₂.extBut
/-- the target is a pair of names -/
theorem asgP {x x₂ : Str} {px px₂ tp : Pos} {tk} {I ax t : Addr} {j : Nat} {v₁ v₂ : Value} {s₂ : Shared} {m₂ : Str → Option Value} {Q : Unit → Shared → Prop} {E' : Value → Shared → Prop}
    (hh : A.handled = none) (hn : s₂.heap.Ns C m₂) (hit : s₂.heap.IsListIter I ax j) (ht : IsTup s₂.heap t #[v₁, v₂])
    (hQ : ∀ h' m' k, h'.Ns C m' → m' x = some v₁ → m' x₂ = some v₂ → (∀ b o, b ≠ C → s₂.heap.get? b = some o → h'.get? b = some o) → Q () { s₂ with heap := h', toks := k })
    (hxx : x ≠ x₂ := by decide) (hk : sc.kind = .function := by rfl) (hl : (compEnv sc C (envOf name scope L a cd)).kindOf x = some .local := by rfl) (hl₂ : (compEnv sc C (envOf name scope L a cd)).kindOf x₂ = some .local := by rfl) :
    wpAny (model P0 w) A (letOwnedTupleGo (.Tuple [.Name x px, .Name x₂ px₂] tk tp) (.ref I) (.ref t)) (fun _ s₁' => wpAny (model P0 w) A (PySem.assign (.Tuple [.Name x px, .Name x₂ px₂] tk tp) (compEnv sc C (envOf name scope L a cd)) (.ref t)) Q E' s₁') E' s₂ := by
  have hp : (sc.kind == .class || (sc.kind == .module && C != mainGlobals)) = false := by rw [hk]; rfl
  refine wpAny_letOwnedTupleGo_listiter hit ?_
  refine assign_Tuple_tuple hh ht rfl rfl fun h₅ he => ?_
  have he' : ∀ b o, s₂.heap.get? b = some o → h₅.get? b = some o := fun b o e => he b o (Nat.ne_of_lt (Heap.lt_size e)) e
  refine assignInOrder_cons (wpAny_assign_Name (wpAny_storeName_local hl (hn.keeps he') (fun h₆ hn₆ hs₆ => ?_) hp))
  refine assignInOrder_cons (wpAny_assign_Name (wpAny_storeName_local hl₂ hn₆ (fun h₃ hn₃ hs₃ => ?_) hp))
  refine assignInOrder_nil ?_
  exact hQ h₃ _ _ hn₃ ((if_neg hxx).trans (if_pos rfl)) (if_pos rfl) fun b o hb e => hs₃.extBut b o hb (hs₆.extBut b o hb (he' b o e))
end
end Mine
end
noncomputable section
open PySem PySem.W PyProof.Rows PySem.Calls
set_option maxRecDepth 100000
namespace Mine
open Bbs
def Ints (vs : List Value) (ns : List Nat) : Prop := Paired (fun (n : Nat) v => ∃ t, v = Value.int (n : Int) t) ns vs
theorem Ints.items : ∀ {vs : List Value} {ns : List Nat}, Ints vs ns → ∃ xs : List (Int × Tok), vs = xs.map (fun p => .int p.1 p.2) ∧ xs.map (·.1) = ns.map (fun n : Nat => (n : Int))
  | _, _, .nil => ⟨[], rfl, rfl⟩
  | _, _, .cons ⟨t, e⟩ r => by
    obtain ⟨xs, e1, e2⟩ := Ints.items r
    exact ⟨(_, t) :: xs, by rw [e, e1]; rfl, by simp [e2]⟩
theorem Ints.length {vs : List Value} {ns : List Nat} (h : Ints vs ns) : ns.length = vs.length := Paired.length h
theorem numAt_list (xs : List (Int × Tok)) (ns : List Nat) (h : xs.map (·.1) = ns.map (fun n : Nat => (n : Int))) (j : Nat) : numAt xs.toArray j = ((ns[j]?.getD 0 : Nat) : Int) := by
  unfold numAt
  have : (xs[j]?.map (·.1)) = ns[j]?.map (fun n : Nat => (n : Int)) := by rw [← List.getElem?_map, h, List.getElem?_map]
  rw [List.getElem?_toArray, this]
  cases ns[j]? <;> rfl
theorem preSum_list (xs : List (Int × Tok)) (ns : List Nat) (h : xs.map (·.1) = ns.map (fun n : Nat => (n : Int))) : ∀ j, j ≤ ns.length → preSum (numAt xs.toArray) j = ((ns.take j).sum : Nat)
  | 0, _ => by simp [preSum]
  | j + 1, hj => by
    rw [preSum, preSum_list xs ns h j (by omega), numAt_list xs ns h]
    rw [List.take_add_one, List.getElem?_eq_getElem (by omega), List.sum_append]
    simp only [Option.getD_some, Option.toList_some, List.sum_cons, List.sum_nil]
    omega
theorem sum_take_le (ns : List Nat) (j : Nat) : (ns.take j).sum ≤ ns.sum := by
  conv => rhs; rw [← List.take_append_drop j ns]
  rw [List.sum_append]; omega
theorem sumInts {w : World} {A : Around} {E : Value → Shared → Prop} {s : Shared} {l : Addr} {vs : List Value} {ns : List Nat} {Q : Value → Shared → Prop} (hh : A.handled = none) (hl : s.heap.IsList l vs.toArray) (hi : Ints vs ns) (hb : ns.sum ≤ 1000000)
    (h : ∀ h' tk t', (∀ b o, s.heap.get? b = some o → h'.get? b = some o) → Q (.int (ns.sum : Nat) t') { s with heap := h', toks := tk }) :
    wpAny (model P0 w) A (call (.builtin "sum") [.ref l]) Q E s := by
  obtain ⟨xs, e1, e2⟩ := hi.items
  have hl' : s.heap.IsList l (intItems xs.toArray) := by
    have : intItems xs.toArray = vs.toArray := by rw [e1]; simp [intItems]
    rw [this]; exact hl
  have hlen : xs.length = ns.length := by have := congrArg List.length e2; simpa using this
  refine sum_intList hh hl' (fun j hj => ?_) fun h' tk t' k => ?_
  · have hj' : j < ns.length := by simpa [hlen] using hj
    rw [preSum_list xs ns e2 _ (by omega), numAt_list xs ns e2]
    have a1 := sum_take_le ns (j + 1)
    have a2 : ns[j]?.getD 0 ≤ (ns.take (j + 1)).sum := by
      rw [List.take_add_one, List.getElem?_eq_getElem hj', List.sum_append]
      simp
    unfold InLong
    have : (2 : Int) ^ 63 = 9223372036854775808 := by decide
    omega
  · have := h h' tk t' k
    rw [preSum_list xs ns e2 _ (by simp [hlen])]
    simpa [hlen] using this
end Mine
end
noncomputable section
open PySem PySem.W PyProof.Rows PySem.Calls
set_option maxRecDepth 100000
namespace Mine
open Bbs
theorem FX.change {h₀ h h' : Heap} {L G : Addr} {m : Str → Option Value} (f : FX h₀ h₀ L h m) (hs : Heap.SameBut G h h') (hG : G ≠ L) (h0 : h₀.get? G = none) : FX h₀ h₀ L h' m :=
  ⟨⟨f.F.ns.sameBut hs (Ne.symm hG), fun b o e => hs.extBut b o (by rintro rfl; rw [h0] at e; cases e) (f.F.keep b o e), f.F.above⟩,
   fun b o n e => hs.extBut b o (by rintro rfl; rw [h0] at e; cases e) (f.X b o n e)⟩
theorem FX.base {h₀ g h : Heap} {L : Addr} {m : Str → Option Value} (f : FX h₀ g L h m) : FX h₀ h₀ L h m := ⟨f.F, fun b o _ e => f.F.keep b o e⟩
theorem list_ne_ns {h : Heap} {D L : Addr} {xs : Array Value} {m : Str → Option Value} (hl : h.IsList D xs) (hn : h.Ns L m) : D ≠ L := by
  rintro rfl
  obtain ⟨o, e, _, n, d⟩ := hl
  obtain ⟨o', _, _, e', d', _⟩ := hn
  rw [e] at e'; cases e'; rw [d] at d'; cases d'
theorem mem_le_sum : ∀ {l : List Nat} {x : Nat}, x ∈ l → x ≤ l.sum
  | y :: l, x, h => by
    rcases List.mem_cons.mp h with rfl | h
    · simp
    · have := mem_le_sum h; simp; omega
theorem balls_le : ∀ t : List Bool, balls t ≤ t.length
  | [] => by simp [balls]
  | true :: t => by have := balls_le t; simp [balls]; omega
  | false :: t => by have := balls_le t; simp [balls]; omega
theorem starts_le : ∀ (t : List Bool) (p : Bool), starts p t ≤ t.length
  | [], _ => by simp [starts]
  | true :: t, p => by have := starts_le t true; cases p <;> simp [starts] <;> omega
  | false :: t, p => by have := starts_le t false; simp [starts]; omega
def grownBody : List Stmt := match (fnAt 18 0 .none .none 0).body with | .stmts [_, _, .While _ b _ _, _] => b | _ => []
def grownScope : Scope := (fnAt 18 0 .none .none 0).scope
theorem lens_ints : ∀ {l : List (Str × Tok)} {ys : List Value}, Paired (fun (p : Str × Tok) v => ∃ t, v = Value.int (p.1.length : Nat) t) l ys → Ints ys (l.map fun p => p.1.length)
  | _, _, .nil => .nil
  | _, _, .cons e r => .cons e (lens_ints r)
theorem strValues_get {l : List (Str × Tok)} {i : Nat} {v : Value} {a : Str × Tok} (h1 : (strValues l).toArray[i]? = some v) (h2 : l[i]? = some a) : v = .str a.1 a.2 := by
  rw [List.getElem?_toArray] at h1
  unfold strValues at h1
  rw [List.getElem?_map, h2] at h1
  cases h1; rfl
set_option maxHeartbeats 4000000 in
theorem grown_step {w : World} {A : Around} {s : Shared} {h₀ : Heap} {L G : Addr} {m : Str → Option Value} (hK : (KF w.params).In h₀) (hd : A.depth < 901) (hh : A.handled = none) {t : List Bool} (hl : t.length ≤ 400) {u : Tok} {vs : List Value} {acc : List Nat}
    (eT : m "text" = some (.str (enc t) u)) (eG : m "grown" = some (.ref G)) (hGL : G ≠ L) (hG0 : h₀.get? G = none) (hG : s.heap.PlainList G vs.toArray) (hI : Ints vs acc) (ha : acc.length ≤ 1000) (F : FX h₀ h₀ L s.heap m) :
    wpAny (model P0 w) A (execs grownBody (envOf "_law_grown" grownScope L 138 (.ref 137)))
      (fun fl s₂ => fl = .next ∧ ∃ h₂ k₂ m₂ u₂ vs₂, s₂ = { s with heap := h₂, toks := k₂ } ∧ FX h₀ h₀ L h₂ m₂ ∧ m₂ "text" = some (.str (enc (elim t)) u₂) ∧ m₂ "grown" = some (.ref G) ∧ h₂.PlainList G vs₂.toArray ∧ Ints vs₂ (acc ++ [starts false t])) (fun _ _ => False) s := by
  have hK₁ := hK.keeps F.F.keep
  refine wpAny_execs_cons (wpAny_Assign_Name (MethodCall_ (Call_ (gl hK₁ (v := .ref 48) (by kernel_rfl) (callWith_def (o := o48S6 w.params) rfl (args_cons (ld F.F eT (args_nil ⟨hK₁ _ _ rfl, ?_⟩))))))))
  refine callC (c_quote (by exact hK₁) (Nat.lt_trans hd (by decide)) t (by omega) _) ?_
  rintro v h' tk₁ kp ⟨X, tX, rfl, eX⟩
  have F₂ := F.keeps kp
  refine GM.split ?_
  refine callWith_method1 (args_cons (wpAny_Constant_str (args_nil ?_)))
  have hXl : X.length = (quo true t).length := by show X.cps.size = _; rw [← Array.length_toList, eX]
  have hql := quo_length t true
  have hG₂ : h'.PlainList G vs.toArray := hG.at fun o e => kp _ _ e
  have hparts : (Builtin.Str.partsBetween X (Builtin.Str.occurrences X (Str.ofString "\r\n") 0 X.length (X.length + 1)) (Str.ofString "\r\n").length).length ≤ sizeLine := by
    have e1 := StrLaws.occ_length_le X (Str.ofString "\r\n") 0 X.length (X.length + 1)
    rw [length_partsBetween, sizeLine_val]; omega
  refine SCH.split1 (P := fun h => FX h₀ h₀ L h m ∧ h.PlainList G vs.toArray) (fun h ob q => ⟨q.1.push ob, q.2.at fun o e => Heap.get?_push_of_some _ e⟩) ⟨F₂, hG₂⟩ (by decide +kernel) (fun D l h₃ k₃ el hP hD => ?_) (by rw [sizeLine_val]; omega) hparts
  obtain ⟨F₃, hG₃⟩ := hP
  have hDL := list_ne_ns hD F₃.F.ns
  refine stX F₃.rebase fun h₄ F₄ => ?_
  have hD₄ : h₄.IsList D (strValues l).toArray := hD.at fun o e => F₄.X _ _ hDL e
  have hG₄ : h₄.PlainList G vs.toArray := hG₃.at fun o e => F₄.X _ _ hGL e
  have F₄ := F₄.base
  have hK₄ := hK.keeps F₄.F.keep
  have hll : l.length ≤ 1000 := by
    have e0 := congrArg List.length el
    have e1 := StrLaws.occ_length_le X (Str.ofString "\r\n") 0 X.length (X.length + 1)
    rw [List.length_map] at e0
    rw [e0]
    unfold Txt.split
    split
    · simp
    · split
      · simp
      · rw [length_partsBetween]; omega
  have hsum : (l.map fun p => p.1.length).sum = balls t + starts false t := by
    have := split_sum X (Str.ofString "\r\n") (by decide +kernel) (by decide +kernel)
    rw [← el, List.map_map, eX, cr_list] at this
    exact this.trans (subR_quo t _ true (by rw [hXl]; omega))
  refine wpAny_execs_cons (toksUp ?_)
  refine wpAny_Expr (MethodCall_ (ld F₄.F (upd_ne eG) ?_))
  obtain ⟨nG, oG⟩ := id hG₄
  refine getMethod_list_append oG rfl rfl ?_
  refine callWith_method1 (args_cons (wpAny_BinOp (Call_ (gb hK₄ (v := .builtin "sum") (by kernel_rfl) (by kernel_rfl) ?_))))
  refine PyProof.Rows.callWith_builtin1 (args_cons (lcE l (fun _ => true) (fun _ (p : Str × Tok) v => ∃ t, v = Value.int (p.1.length : Nat) t) (fun p m' => m' "row" = some (.str p.1 p.2)) hh (ld F₄.F upd_eq ⟨D, _, rfl, hD₄, ?_, ?_⟩)))
  · refine ⟨by simp [strValues], by simp [strValues]; exact hll, fun _ _ _ _ q _ => q, fun C I ax i v a s₂ m₂ j Q E' h1 h2 hn _ kp' hQ => ?_, fun C a s₂ m₂ E' _ _ _ _ _ => wpAny_tests_nil ⟨rfl, _, _, rfl, fun _ _ e => e⟩, fun C a s₂ m₂ E' hal _ hn hm kp' _ => ?_⟩
    · cases strValues_get h1 h2
      exact asgN hn hQ
    · have hK₅ := hK₄.keeps kp'
      refine Call_ (gbC hK₅ (v := .builtin "len") (by kernel_rfl) (by kernel_rfl) (PyProof.Rows.callWith_builtin1 (args_cons (ldC hn hm (args_nil (len_str ?_ ⟨⟨_, rfl⟩, _, _, rfl, fun _ _ e => e⟩))))))
      have b0 := mem_le_sum (List.mem_map_of_mem (f := fun p : Str × Tok => p.1.length) hal)
      rw [hsum] at b0
      have b1 := balls_le t
      have b2 := starts_le t false
      have b3 : (2 : Int) ^ 63 = 9223372036854775808 := by decide
      have b0' : a.1.length ≤ balls t + starts false t := b0
      omega
  · intro D₂ h₅ k₅ ys hD₂ hl₅ hP₅ kp₅
    refine args_nil ?_
    rw [List.filter_eq_self.mpr (by simp)] at hP₅
    have hI₅ := lens_ints hP₅
    have b1 := balls_le t
    have b2 := starts_le t false
    refine sumInts hh (by exact hl₅) hI₅ (by rw [hsum]; omega) fun h₆ k₆ t₆ kp₆ => ?_
    rw [hsum]
    have F₆ := (F₄.keeps kp₅).keeps kp₆
    have hG₆ : h₆.PlainList G vs.toArray := hG₄.at fun o e => kp₆ _ _ (kp₅ _ _ e)
    refine MethodCall_ (ld F₆.F (upd_ne eT) (GM.count (callWith_method1 (args_cons (wpAny_Constant_str (args_nil (SC.count ?_)))))))
    rw [count_dots]
    refine sub_int (args_nil ?_)
    rw [show ((balls t + starts false t : Nat) : Int) - ((balls t : Nat) : Int) = ((starts false t : Nat) : Int) by omega]
    have hvl : vs.length ≤ 1000 := by have := hI.length; omega
    refine wpAny_list_append_plain (hsz := by rw [List.size_toArray, sizeLine_val]; omega) hG₆ fun h₇ hG₇ hs₇ => ?_
    have F₇ := F₆.change hs₇ hGL hG0
    intro htk
    have htk' : 1 ≤ k₆ + 1 + 1 := by omega
    refine wpAny_execs_cons (wpAny_Assign_Name (MethodCall_ (ld F₇.F (upd_ne eT) (GM.replace (callWith_method1 (args_cons (wpAny_Constant_str (args_cons (wpAny_Constant_str (args_nil ?_))))))))))
    have e0 : (Str.ofString "").length = 0 := by decide +kernel
    refine SC.replace (y := Str.ofString ".\n") (z := Str.ofString "") (Nat.ne_of_gt (Nat.succ_pos _)) (Nat.ne_of_gt (Nat.succ_pos _)) (Nat.ne_of_lt (Nat.lt_succ_self _)) (by decide +kernel) (by rw [enc_length, e0]; omega) fun t₈ k₈ => ?_
    rw [replace_elim]
    refine stX F₇.rebase fun h₉ F₉ => ?_
    have hG₉ := hG₇.at fun o e => F₉.X _ _ hGL e
    rw [List.push_toArray] at hG₉
    exact wpAny_execs_nil ⟨rfl, _, _, _, _, _, rfl, F₉.base, upd_eq, upd_ne (upd_ne eG), hG₉, Paired.snoc hI ⟨_, rfl⟩⟩
end Mine
end
noncomputable section
open PySem PySem.W PyProof.Rows PySem.Calls
set_option maxRecDepth 100000
namespace Mine
open Bbs
theorem elim_length : ∀ (n : Nat) (t : List Bool), t.length ≤ n → (elim t).length ≤ t.length
  | 0, [], _ => by simp [elim]
  | n + 1, [], _ => by simp [elim]
  | n + 1, [true], _ => by simp [elim]
  | n + 1, true :: false :: t, h => by have := elim_length n t (by simp at h; omega); simp [elim]; omega
  | n + 1, true :: true :: t, h => by have := elim_length n (true :: t) (by simp at h ⊢; omega); simp [elim] at this ⊢; omega
  | n + 1, false :: t, h => by have := elim_length n t (by simp at h; omega); simp [elim]; omega
theorem nums_length : ∀ (n : Nat) (t : List Bool), (nums n t).length ≤ n
  | 0, _ => by simp [nums]
  | n + 1, t => by
    have := nums_length n (elim t)
    unfold nums
    split
    · simp
    · simp; omega
set_option maxHeartbeats 4000000 in
theorem c_grown {w : World} {A : Around} {s : Shared} (hK : (KF w.params).In s.heap) (hd : A.depth < 900) (hh : A.handled = none) (b : List Bool) (hb : b.length ≤ 200) (t : Tok) :
    codeAny (model P0 w) A (.call (.ref 138) ⟨[.str (enc b) t], []⟩)
      (Post s fun v h' => ∃ a vs, v = .ref a ∧ s.heap.get? a = none ∧ h'.PlainList a vs.toArray ∧ Ints vs (grown b)) s := by
  refine call_plain_ret (o := o138S20 w.params) (binds := [("boxes", .str (enc b) t)]) (Nat.lt_trans hd (by decide)) (hK _ _ rfl) rfl (nolimitF hK) (codeRec_of hK (by kernel_rfl)) rfl (locs (by rfl)) fun h₁ F => ?_
  have F₁ := FX.of F
  have bl := balls_le b
  refine wpAny_execs_cons (wpAny_Assign_Name (wpAny_BinOp (ld F (by rfl) (wpAny_BinOp (wpAny_Constant_str (MethodCall_ (ld F (by rfl) (GM.count (callWith_method1 (args_cons (wpAny_Constant_str (args_nil (SC.count ?_)))))))))))))
  rw [count_dots]
  refine SB.mul (mulOk_nl (balls b) (by omega)) fun t' k => ?_
  rw [mul_nl]
  refine SBL.add (fun t'' k' _ => ?_) (by rw [enc_length, enc_length, sizeLine_val]; simp only [zs, List.length_replicate]; omega)
  rw [← enc_append]
  refine stX F₁.base fun h₂ F₂ => ?_
  refine wpAny_execs_cons (wpAny_Assign_Name (List_ (args_nil (wpAny_newList (stX (F₂.push _).rebase fun h₃ F₃ => ?_)))))
  have hG2 : s.heap.get? h₂.objs.size = none := by
    cases q : s.heap.get? h₂.objs.size with
    | none => rfl
    | some o => exact absurd (Heap.lt_size (F₂.F.keep _ _ q)) (Nat.lt_irrefl _)
  generalize hGdef : h₂.objs.size = G at *
  have hGL : G ≠ s.heap.objs.size := by rw [← hGdef]; exact Nat.ne_of_gt F₂.F.ns.lt
  have hG₃ : h₃.PlainList G ([] : List Value).toArray := ⟨0, F₃.X _ _ hGL (by rw [← hGdef]; exact Heap.get?_push_size _ rfl)⟩
  obtain ⟨gk1, gk2⟩ := grown_ok b
  have hgl : (grownText b).length ≤ 400 := by unfold grownText; simp only [List.length_append, zs, List.length_replicate]; omega
  refine wpAny_execs_cons (wpAny_While (codeAny_whileLoop (fun n s' => ∃ h' tk m' u vs acc t', s' = { s with heap := h', toks := tk } ∧ FX s.heap s.heap s.heap.objs.size h' m' ∧ m' "text" = some (.str (enc t') u) ∧ m' "grown" = some (.ref G) ∧ h'.PlainList G vs.toArray ∧ Ints vs acc ∧
    t'.length ≤ 400 ∧ balls t' ≤ n ∧ (fr t').isSome = true ∧ acc ++ nums n t' = grown b ∧ acc.length + n ≤ 200) ?_ (balls b) ⟨_, _, _, _, _, [], grownText b, rfl, F₃.base, upd_ne upd_eq, upd_eq, hG₃, .nil, hgl, by omega, gk2, rfl, by simp; omega⟩))
  rintro n s' ⟨h', tk, m', u, vs, acc, t', rfl, f, eT, eG, hG', hI, hl', hbn, hfr, hsum, hlen⟩
  refine wpAny_isTrue_Compare1 (wpAny_Constant_str (ld f.F eT (PyProof.Rows.in_str (wpAny_truthy_bool ?_))))
  rw [in_dots]
  by_cases h0 : balls t' = 0
  · rw [decide_eq_false (by simpa using h0)]
    simp only [Bool.false_eq_true, if_false]
    refine wpAny_execs_nil ?_
    refine wpAny_execs_cons (wpAny_Return_some (ld f.F eG ?_))
    have : acc = grown b := by
      rw [← hsum]
      cases n with
      | zero => simp [nums]
      | succ n => simp [nums, h0]
    exact ⟨_, _, _, rfl, rfl, f.F.keep, G, vs, rfl, hG2, hG', this ▸ hI⟩
  · rw [decide_eq_true h0]
    simp only [if_true]
    obtain ⟨n, rfl⟩ : ∃ k, n = k + 1 := ⟨n - 1, by omega⟩
    refine (wpAny_mono (grown_step (A := A.deeper _) (s := { s with heap := h', toks := tk + 1 }) hK (by show A.depth + 1 < 901; omega) hh hl' eT eG hGL hG2 hG' hI (by omega) f) (fun fl s₃ h₃ => ?_) fun _ _ (e : False) => e.elim)
    obtain ⟨rfl, h₂, k₂, m₂, u₂, vs₂, rfl, f₂, e1, e2, e3, e4⟩ := h₃
    have be := balls_elim _ t' (Nat.le_refl _) hfr
    have sp := starts_pos (Nat.pos_of_ne_zero h0)
    refine ⟨n, Nat.lt_succ_self _, h₂, k₂, m₂, u₂, vs₂, _, elim t', rfl, f₂, e1, e2, e3, e4, Nat.le_trans (elim_length _ _ (Nat.le_refl _)) hl', by omega, by rw [fr_elim _ _ (Nat.le_refl _) hfr]; exact hfr, ?_, by simp; omega⟩
    rw [← hsum, List.append_assoc]
    simp [nums, h0]
end Mine
end
noncomputable section
open PySem PySem.W PyProof.Rows PySem.Calls
set_option maxRecDepth 100000
namespace Mine
open Bbs
def natE (x : Nat × Nat × Pos) : Expr := .Constant (.int (x.1 : Int)) x.2.1 x.2.2
def strE (x : Str × Nat × Pos) : Expr := .Constant (.str x.1) x.2.1 x.2.2
def natPs (es : List Expr) : List (Nat × Nat × Pos) := es.filterMap fun e => match e with
  | .Constant (.int i) k p => some (i.toNat, k, p)
  | _ => none
def strPs (es : List Expr) : List (Str × Nat × Pos) := es.filterMap fun e => match e with
  | .Constant (.str i) k p => some (i, k, p)
  | _ => none
section
variable {w : World} {A : Around} {E : Value → Shared → Prop} {s : Shared} {env : Env}
theorem args_nats {pos : Pos} : ∀ (ps : List (Nat × Nat × Pos)) {s : Shared} {Q : List Value → Shared → Prop}, (∀ vs k, Ints vs (ps.map (·.1)) → Q vs { s with toks := k }) → wpAny (model P0 w) A (spliced (backTo pos (starEach (ps.map natE) env))) Q E s
  | [], s, Q, hQ => args_nil (hQ [] s.toks .nil)
  | x :: l, s, Q, hQ => by
    rw [List.map_cons]
    refine args_cons (wpAny_Constant_int (args_nats l fun vs k hv => ?_))
    exact hQ _ _ (.cons ⟨_, rfl⟩ hv)
theorem args_strs {pos : Pos} : ∀ (ps : List (Str × Nat × Pos)) {s : Shared} {Q : List Value → Shared → Prop}, (∀ vs k, Paired (fun (x : Str) v => ∃ t, v = Value.str x t) (ps.map (·.1)) vs → Q vs { s with toks := k }) → wpAny (model P0 w) A (spliced (backTo pos (starEach (ps.map strE) env))) Q E s
  | [], s, Q, hQ => args_nil (hQ [] s.toks .nil)
  | x :: l, s, Q, hQ => by
    rw [List.map_cons]
    refine args_cons (wpAny_Constant_str (args_strs l fun vs k hv => ?_))
    exact hQ _ _ (.cons ⟨_, rfl⟩ hv)
/-- a new list, by an address that was not there -/
theorem newL {vs : List Value} {Q : Value → Shared → Prop} (hl : vs.length ≤ 1000)
    (hQ : ∀ a h', s.heap.get? a = none → h'.IsList a vs.toArray → (∀ b o, s.heap.get? b = some o → h'.get? b = some o) → Q (.ref a) { s with heap := h' }) : wpAny (model P0 w) A (newList vs) Q E s := by
  refine wpAny_newList (hQ _ _ ?_ ⟨_, Heap.get?_push_size _ rfl, rfl, _, rfl⟩ fun b o e => Heap.get?_push_of_some _ e) (by rw [sizeLine_val]; omega)
  cases q : s.heap.get? s.heap.objs.size with
  | none => rfl
  | some o => exact absurd (Heap.lt_size q) (Nat.lt_irrefl _)
theorem listI {es : List Expr} {ns : List Nat} {pos : Pos} {Q : Value → Shared → Prop} (h : es = (natPs es).map natE) (hns : (natPs es).map (·.1) = ns) (hn : ns.length ≤ 1000)
    (hQ : ∀ a h' vs k, Ints vs ns → s.heap.get? a = none → h'.IsList a vs.toArray → (∀ b o, s.heap.get? b = some o → h'.get? b = some o) → Q (.ref a) { s with heap := h', toks := k }) : wpAny (model P0 w) A (eval (.List es pos) env) Q E s :=
  List_ (by
    rw [h]
    exact args_nats _ fun vs k hv => newL (by have := hv.length; rw [hns] at this; omega) fun a h' h1 h2 h3 => hQ a h' vs k (hns ▸ hv) h1 h2 h3)
theorem listS {es : List Expr} {ns : List Str} {pos : Pos} {Q : Value → Shared → Prop} (h : es = (strPs es).map strE) (hns : (strPs es).map (·.1) = ns) (hn : ns.length ≤ 1000)
    (hQ : ∀ a h' vs k, Paired (fun (x : Str) v => ∃ t, v = Value.str x t) ns vs → s.heap.get? a = none → h'.IsList a vs.toArray → (∀ b o, s.heap.get? b = some o → h'.get? b = some o) → Q (.ref a) { s with heap := h', toks := k }) : wpAny (model P0 w) A (eval (.List es pos) env) Q E s :=
  List_ (by
    rw [h]
    exact args_strs _ fun vs k hv => newL (by have := Paired.length hv; rw [hns] at this; omega) fun a h' h1 h2 h3 => hQ a h' vs k (hns ▸ hv) h1 h2 h3)
/-- an item of a list, its base an expression of any kind -/
theorem itemG {value slice : Expr} {l : Addr} {items : Array Value} {k : Int} {u : Tok} {x : Value} {Q : Value → Shared → Prop} (hl : s.heap.IsList l items)
    (h0 : 0 ≤ k) (hfit : k < 2 ^ 63) (hx : items[k.toNat]? = some x) (h : Q x s)
    (hs : subscripted slice false (.ref l) (.int k u) = operate [.ref l, .int k u] (getItem (.ref l) (.int k u)) := by with_unfolding_all rfl) :
    wpAny (model P0 w) A (subscriptTail value slice (.ref l) (.int k u)) Q E s :=
  subscriptTail_builtinR hl.typeIs slot_list_getitem.lookup (wpAny_getItem_list hl h0 hfit hx ⟨rfl, h⟩) hs
theorem Ints.at : ∀ {vs : List Value} {ns : List Nat} {i n : Nat}, Ints vs ns → ns[i]? = some n → ∃ t, vs[i]? = some (.int (n : Int) t)
  | _, _, i, n, .nil, h => by simp at h
  | _, _, 0, n, .cons ⟨t, e⟩ r, h => by simp at h; exact ⟨t, by simp [e, h]⟩
  | _, _, i + 1, n, .cons _ r, h => by simpa using Ints.at r (by simpa using h)
theorem strs_at : ∀ {ns : List Str} {vs : List Value} {i : Nat} {n : Str}, Paired (fun (x : Str) v => ∃ t, v = Value.str x t) ns vs → ns[i]? = some n → ∃ t, vs[i]? = some (.str n t)
  | _, _, i, n, .nil, h => by simp at h
  | _, _, 0, n, .cons ⟨t, e⟩ r, h => by simp at h; exact ⟨t, by simp [e, h]⟩
  | _, _, i + 1, n, .cons _ r, h => by simpa using strs_at r (by simpa using h)
end
end Mine
end
noncomputable section
open PySem PySem.W PyProof.Rows PySem.Calls
set_option maxRecDepth 100000
namespace Mine
open Bbs
def itemStmts : List Stmt := match (fnAt 17 0 .none .none 0).body with | .stmts b => b | _ => []
def stockEs : List (List Expr) := match (itemStmts[0]? : Option Stmt) with
  | some (.Assign _ (.List es _) _) => es.map fun e => match e with | .List es _ => es | _ => []
  | _ => []
def stocksN : List (List Nat) := stockEs.map fun es => (natPs es).map (·.1)
def kindsN : List Nat := match (itemStmts[1]? : Option Stmt) with
  | some (.Assign _ (.Subscript (.List es _) _ _) _) => (natPs es).map (·.1)
  | _ => []
def meantsN : List Str := match (itemStmts[3]? : Option Stmt) with
  | some (.Return (some (.Tuple (.Subscript (.List es _) _ _ :: _) _ _)) _) => (strPs es).map (·.1)
  | _ => []
def kindOf (x : Nat) : Nat := kindsN.getD (x % 7) 0
def stockOf (x : Nat) : List Nat := stocksN.getD (kindOf x) []
def signOf (x : Nat) : Nat := (stockOf x).getD (x / 7 % (stockOf x).length) 0
def meantOf (x : Nat) : Str := meantsN.getD (kindOf x) ""
theorem item_ok : ∀ x, x < 168 → kindsN[x % 7]? = some (kindOf x) ∧ stocksN[kindOf x]? = some (stockOf x) ∧ (stockOf x)[x / 7 % (stockOf x).length]? = some (signOf x) ∧ meantsN[kindOf x]? = some (meantOf x) ∧ signOf x ≤ 1114111 ∧ (stockOf x).length ≠ 0 ∧ (stockOf x).length ≤ 1000 ∧ kindOf x < 5 := by decide +kernel
theorem fmod_nat (a b : Nat) : (a : Int).fmod (b : Int) = ((a % b : Nat) : Int) := by
  rw [Int.fmod_eq_emod_of_nonneg _ (by omega)]; rfl
theorem fdiv_nat (a b : Nat) : (a : Int).fdiv (b : Int) = ((a / b : Nat) : Int) := by
  rw [Int.fdiv_eq_ediv_of_nonneg _ (by omega)]; rfl
section
variable {w : World} {A : Around} {E : Value → Shared → Prop} {s : Shared} {Q : Value → Shared → Prop}
theorem modN {a b : Nat} {ai bi : Int} {t u : Tok} (ha : ai = a) (hb : bi = b) (h0 : b ≠ 0) (h : Q (.int ((a % b : Nat) : Int) s.toks) { s with toks := s.toks + 1 }) : wpAny (model P0 w) A (binaryOp .Mod (.int ai t) (.int bi u)) Q E s := by
  subst ha hb
  exact mod_int (by omega) (by rw [fmod_nat]; exact h)
theorem divN {a b : Nat} {ai bi : Int} {t u : Tok} (ha : ai = a) (hb : bi = b) (h0 : b ≠ 0) (h1 : a ≤ 1000) (h2 : b ≤ 1000) (h : Q (.int ((a / b : Nat) : Int) s.toks) { s with toks := s.toks + 1 }) : wpAny (model P0 w) A (binaryOp .FloorDiv (.int ai t) (.int bi u)) Q E s := by
  subst ha hb
  exact floordiv_int (by omega) (by rw [fdiv_nat]; exact h)
theorem lenN {vs : List Value} {n : Nat} {l : Addr} (hl : s.heap.IsList l vs.toArray) (hn : vs.length = n) (h1 : n ≤ 1000) (h : Q (.int (n : Int) (s.toks + 1)) { s with toks := s.toks + 1 + 1 }) : wpAny (model P0 w) A (call (.builtin "len") [.ref l]) Q E s := by
  subst hn
  exact len_list hl (by rw [List.size_toArray]; omega) h
theorem chrN {n : Nat} {t : Tok} (h1 : n ≤ 1114111) (h : Q (.str ⟨#[n]⟩ s.toks) { s with toks := s.toks + 1 }) : wpAny (model P0 w) A (call (.builtin "chr") [.int (n : Int) t]) Q E s :=
  chr_of_range (by omega) (by omega) h
theorem itemN {value slice : Expr} {l : Addr} {vs : List Value} {n : Nat} {u : Tok} {x : Value} (hl : s.heap.IsList l vs.toArray) (h0 : n ≤ 1000) (hx : vs[n]? = some x) (h : Q x s)
    (hs : subscripted slice false (.ref l) (.int (n : Int) u) = operate [.ref l, .int (n : Int) u] (getItem (.ref l) (.int (n : Int) u)) := by with_unfolding_all rfl) :
    wpAny (model P0 w) A (subscriptTail value slice (.ref l) (.int (n : Int) u)) Q E s :=
  itemG hl (by omega) (by omega) (by rw [Int.toNat_natCast, List.getElem?_toArray]; exact hx) h hs
end
theorem pl_push {h : Heap} {vs : List Value} : (h.push { cls := .type "list", data := .seq vs.toArray }).PlainList h.objs.size vs.toArray := ⟨0, Heap.get?_push_size _ rfl⟩
set_option maxHeartbeats 400000 in
theorem c_item {w : World} {A : Around} {s : Shared} (hK : (KF w.params).In s.heap) (hd : A.depth < 900) (x : Nat) (hx : x < 168) (t : Tok) :
    codeAny (model P0 w) A (.call (.ref 133) ⟨[.int (x : Int) t], []⟩)
      (Post s fun v h' => ∃ a t1 t2, v = .ref a ∧ s.heap.get? a = none ∧ h'.get? a = some ⟨.type "tuple", none, .seq #[.str (meantOf x) t1, .str ⟨#[signOf x]⟩ t2] 0, #[]⟩) s := by
  have hok := item_ok x hx
  refine call_plain_ret (o := o133S20 w.params) (binds := [("x", .int x t)]) (Nat.lt_trans hd (by decide)) (hK _ _ rfl) rfl (nolimitF hK) (codeRec_of hK (by kernel_rfl)) rfl (locs (by rfl)) fun h₁ F => ?_
  have F₁ := (FX.of F).base
  -- stocks
  refine wpAny_execs_cons ?_
  refine wpAny_Assign_Name ?a1 (hs := ?a2)
  case a2 => kernel_rfl
  refine List_ ?_
  refine args_cons ?b0 (he := ?c0)
  case c0 => kernel_rfl
  refine listI (ns := stocksN.getD 0 []) ?d0 ?e0 ?f0 ?g0
  case d0 => kernel_rfl
  case e0 => kernel_rfl
  case f0 => decide +kernel
  intro a0' h0 vs0 t0 i0 n0 l0 p0
  refine args_cons ?b1 (he := ?c1)
  case c1 => kernel_rfl
  refine listI (ns := stocksN.getD 1 []) ?d1 ?e1 ?f1 ?g1
  case d1 => kernel_rfl
  case e1 => kernel_rfl
  case f1 => decide +kernel
  intro a1' h1 vs1 t1 i1 n1 l1 p1
  refine args_cons ?b2 (he := ?c2)
  case c2 => kernel_rfl
  refine listI (ns := stocksN.getD 2 []) ?d2 ?e2 ?f2 ?g2
  case d2 => kernel_rfl
  case e2 => kernel_rfl
  case f2 => decide +kernel
  intro a2' h2 vs2 t2 i2 n2 l2 p2
  refine args_cons ?b3 (he := ?c3)
  case c3 => kernel_rfl
  refine listI (ns := stocksN.getD 3 []) ?d3 ?e3 ?f3 ?g3
  case d3 => kernel_rfl
  case e3 => kernel_rfl
  case f3 => decide +kernel
  intro a3' h3 vs3 t3 i3 n3 l3 p3
  refine args_cons ?b4 (he := ?c4)
  case c4 => kernel_rfl
  refine listI (ns := stocksN.getD 4 []) ?d4 ?e4 ?f4 ?g4
  case d4 => kernel_rfl
  case e4 => kernel_rfl
  case f4 => decide +kernel
  intro a4' h4 vs4 t4 i4 n4 l4 p4
  refine args_nil (newL (by simp) ?_)
  intro aS hS nS lS pS
  have l4' := l4.at fun o e => pS _ _ e
  have l3' := (l3.at fun o e => p4 _ _ e).at fun o e => pS _ _ e
  have l2' := ((l2.at fun o e => p3 _ _ e).at fun o e => p4 _ _ e).at fun o e => pS _ _ e
  have l1' := (((l1.at fun o e => p2 _ _ e).at fun o e => p3 _ _ e).at fun o e => p4 _ _ e).at fun o e => pS _ _ e
  have l0' := ((((l0.at fun o e => p1 _ _ e).at fun o e => p2 _ _ e).at fun o e => p3 _ _ e).at fun o e => p4 _ _ e).at fun o e => pS _ _ e
  have F₂ := (((((F₁.keeps p0).keeps p1).keeps p2).keeps p3).keeps p4).keeps pS
  have hst : ∃ a vs, [Value.ref a0', Value.ref a1', Value.ref a2', Value.ref a3', Value.ref a4'][kindOf x]? = some (.ref a) ∧ hS.IsList a vs.toArray ∧ Ints vs (stockOf x) := by
    have k8 := hok.2.2.2.2.2.2.2
    have e : stockOf x = stocksN.getD (kindOf x) [] := rfl
    rw [e]
    generalize kindOf x = c at k8
    match c, k8 with
    | 0, _ => exact ⟨_, _, rfl, l0', i0⟩
    | 1, _ => exact ⟨_, _, rfl, l1', i1⟩
    | 2, _ => exact ⟨_, _, rfl, l2', i2⟩
    | 3, _ => exact ⟨_, _, rfl, l3', i3⟩
    | 4, _ => exact ⟨_, _, rfl, l4', i4⟩
  clear l0 l1 l2 l3 l4 p0 p1 p2 p3 p4 pS l0' l1' l2' l3' l4' n0 n1 n2 n3 n4 nS i0 i1 i2 i3 i4
  obtain ⟨aK, vK, eK, lK, iK⟩ := hst
  obtain ⟨k1, k2, k3, k4, k5, k6, k7, k8⟩ := hok
  refine stX F₂.rebase fun h₃ F₃ => ?_
  have lS := lS.at fun o e => F₃.X _ _ (list_ne_ns lS F₂.F.ns) e
  have lK := lK.at fun o e => F₃.X _ _ (list_ne_ns lK F₂.F.ns) e
  have F₃ := F₃.base
  have hK₃ := hK.keeps F₃.F.keep
  -- kind
  refine wpAny_execs_cons ?_
  refine wpAny_Assign_Name ?q1 (hs := ?q2)
  case q2 => kernel_rfl
  refine Subscript_ ?_
  refine listI (ns := kindsN) ?r1 ?r2 ?r3 ?r4
  case r1 => kernel_rfl
  case r2 => kernel_rfl
  case r3 => decide +kernel
  intro aD hD vD tD iD nD lD pD
  have F₄ := F₃.keeps pD
  have lS := lS.at fun o e => pD _ _ e
  have lK := lK.at fun o e => pD _ _ e
  refine wpAny_BinOp (ld F₄.F (by rfl) (wpAny_Constant_int (modN (a := x) (b := 7) rfl rfl (by decide) ?_)))
  have hk : ∃ tk, vD[x % 7]? = some (.int (kindOf x : Nat) tk) := iD.at k1
  obtain ⟨tk, ek⟩ := hk
  refine itemN lD (by omega) ek ?_
  refine stX F₄.rebase fun h₅ F₅ => ?_
  have lS := lS.at fun o e => F₅.X _ _ (list_ne_ns lS F₄.F.ns) e
  have lK := lK.at fun o e => F₅.X _ _ (list_ne_ns lK F₄.F.ns) e
  have F₅ := F₅.base
  -- stock
  refine wpAny_execs_cons (wpAny_Assign_Name (Subscript_ (ld F₅.F (upd_ne upd_eq) (ld F₅.F upd_eq ?_))))
  refine itemN lS (by omega) eK ?_
  refine stX F₅.rebase fun h₆ F₆ => ?_
  have lK := lK.at fun o e => F₆.X _ _ (list_ne_ns lK F₅.F.ns) e
  have F₆ := F₆.base
  have hK₆ := hK.keeps F₆.F.keep
  -- the pair
  refine wpAny_execs_cons (wpAny_Return_some (Tuple_ ?_))
  refine args_cons ?y1 (he := ?y2)
  case y2 => kernel_rfl
  refine Subscript_ ?_
  refine listS (ns := meantsN) ?z1 ?z2 ?z3 ?z4
  case z1 => kernel_rfl
  case z2 => kernel_rfl
  case z3 => decide +kernel
  intro aM hM vM tM iM nM lM pM
  have F₇ := F₆.keeps pM
  have lK := lK.at fun o e => pM _ _ e
  have hK₇ := hK.keeps F₇.F.keep
  have hm : ∃ tm, vM[kindOf x]? = some (.str (meantOf x) tm) := strs_at iM k4
  obtain ⟨tm, em⟩ := hm
  refine ld F₇.F (upd_ne upd_eq) ?_
  refine itemN lM (by omega) em ?_
  refine args_cons (Call_ (gb hK₇ (v := .builtin "chr") (by kernel_rfl) (by kernel_rfl) (callWith_builtin1 (args_cons ?_))))
  refine Subscript_ (ld F₇.F upd_eq ?_)
  have hlen := iK.length
  have hm2 := Nat.mod_lt (x / 7) (Nat.pos_of_ne_zero k6)
  refine wpAny_BinOp (wpAny_BinOp (ld F₇.F (by rfl) (wpAny_Constant_int (divN (a := x) (b := 7) rfl rfl (by decide) (by omega) (by decide) ?_))))
  refine Call_ (gb hK₇ (v := .builtin "len") (by kernel_rfl) (by kernel_rfl) (callWith_builtin1 (args_cons (ld F₇.F upd_eq (args_nil (lenN lK hlen.symm k7 ?_))))))
  refine modN (a := x / 7) (b := (stockOf x).length) rfl rfl k6 ?_
  have hs : ∃ ts, vK[x / 7 % (stockOf x).length]? = some (.int (signOf x : Nat) ts) := iK.at k3
  obtain ⟨ts, es⟩ := hs
  refine itemN lK (by omega) es ?_
  refine args_nil (chrN k5 ?_)
  refine args_nil (mkTup (by simp) ?_)
  refine ⟨_, _, _, rfl, rfl, (F₇.push _).F.keep, _, _, _, rfl, ?_, Heap.get?_push_size _ rfl⟩
  cases q : s.heap.get? hM.objs.size with
  | none => rfl
  | some o => exact absurd (Heap.lt_size (F₇.F.keep _ _ q)) (Nat.lt_irrefl _)
end Mine
end
noncomputable section
open PySem PySem.W PyProof.Rows PySem.Calls
set_option maxRecDepth 100000
namespace Mine
open Bbs
section
variable {w : World} {A : Around} {E : Value → Shared → Prop} {s : Shared} {env : Env}
theorem subG {value slice : Expr} {o i : Value} {T nm : String} {ops : List Value} {Q : Value → Shared → Prop} (hT : s.TypeIs o T)
    (hl : typeLookup (.type T) "__getitem__" = pure (some (.builtin nm))) (hs : subscripted slice false o i = operate ops (getItem o i)) (h : wpAny (model P0 w) A (getItem o i) Q E s) :
    wpAny (model P0 w) A (subscriptTail value slice o i) Q E s := by
  unfold subscriptTail
  refine wpAny_bind ?_
  rw [getitemInPython_of_ne hT.not_modules]
  refine wpAny_bind (wpAny_specialOf hT hl ?_)
  have fin : wpAny (model P0 w) A (subscripted slice false o i) (fun r s₃ => wpAny (model P0 w) A (letTemporaryGo value o r >>= fun _ => pure r) Q E s₃) E s := by
    rw [hs]
    exact wpAny_operating (wpAny_mono h (fun r s₃ h₃ => wpAny_bind (wpAny_letTemporaryGo (wpAny_pure h₃))) fun _ _ x => x)
  first
    | exact wpAny_pure (wpAny_bind fin)
    | exact wpAny_bind (wpAny_pure (wpAny_bind fin))
    | exact wpAny_bind fin
theorem fresh_none {h : Heap} : h.get? h.objs.size = none := by
  cases q : h.get? h.objs.size with
  | none => rfl
  | some o => exact absurd (Heap.lt_size q) (Nat.lt_irrefl _)
theorem fresh_none1 {h : Heap} : h.get? (h.objs.size + 1) = none := by
  cases q : h.get? (h.objs.size + 1) with
  | none => rfl
  | some o => exact absurd (Nat.lt_of_succ_lt (Heap.lt_size q)) (Nat.lt_irrefl _)
/-- a slice of a list -/
theorem sliceG {value : Expr} {lower upper step : Option Expr} {p pos : Pos} {Q : Value → Shared → Prop}
    (h : wpAny (model P0 w) A (eval value env) (fun o s₁ => wpAny (model P0 w) A (evalPart lower env) (fun vl s₂ => wpAny (model P0 w) A (evalPart upper env) (fun vu s₃ => wpAny (model P0 w) A (evalPart step env) (fun vs s₄ =>
      ∃ l items lo hi st, o = .ref l ∧ s₄.heap.IsList l items ∧ items.size ≤ 1000 ∧ IsPart vl lo ∧ IsPart vu hi ∧ IsPart vs st ∧ st ≠ some 0 ∧
        (∀ a h', s₄.heap.get? a = none → h'.IsList a (slicePick items lo hi st) → (∀ b o, s₄.heap.get? b = some o → h'.get? b = some o) → Q (.ref a) { s₄ with heap := h' })) E s₃) E s₂) E s₁) E s) :
    wpAny (model P0 w) A (eval (.Subscript value (.Slice lower upper step p) pos) env) Q E s := by
  refine Subscript_ (wpAny_mono h (fun o s₁ h₁ => wpAny_Slice (wpAny_mono h₁ (fun vl s₂ h₂ => wpAny_mono h₂ (fun vu s₃ h₃ => wpAny_mono h₃ (fun vs s₄ h₄ => ?_) fun _ _ e => e) fun _ _ e => e) fun _ _ e => e)) fun _ _ e => e)
  obtain ⟨l, items, lo, hi, st, rfl, hl, hsz, pl, pu, ps, h0, hQ⟩ := h₄
  have hs : ∃ ops, subscripted (.Slice lower upper step p) false (.ref l) (.ref s₄.heap.objs.size) = operate ops (getItem (.ref l) (.ref s₄.heap.objs.size)) := by
    cases step <;> exact ⟨_, rfl⟩
  obtain ⟨ops, hs⟩ := hs
  refine subG (s := { s₄ with heap := s₄.heap.push { cls := .type "slice", data := .fields #[vl, vu, vs] } }) (Heap.IsList.typeIs (s := { s₄ with heap := s₄.heap.push { cls := .type "slice", data := .fields #[vl, vu, vs] } }) (hl.push _)) list_getitem_lookup hs ?_
  refine wpAny_getItem_list_slice (hl.push _) (Heap.IsSliceOf.new ..) pl pu ps h0 ?_ (by rw [sizeLine_val]; omega)
  show Q (.ref (s₄.heap.push _).objs.size) _
  rw [Heap.size_push]
  refine hQ _ _ fresh_none1 ⟨{ cls := .type "list", data := .seq (slicePick items lo hi st) }, ?_, rfl, _, rfl⟩ fun b o e => Heap.get?_push_of_some _ (Heap.get?_push_of_some _ e)
  rw [← Heap.size_push (h := s₄.heap)]
  exact Heap.get?_push_size _ rfl
theorem rev_picked (x : Str) (t : Tok) : slicePicked x none none (some (-1, t)) = (List.range x.length).reverse := by
  unfold slicePicked Builtin.Str.strSliceIndices
  show sliceRange ((x.length : Int) - 1) (-1) (-1) = _
  rw [krv_sliceRange, krv_range]
/-- a text turned about -/
theorem revS {value st : Expr} {p pos : Pos} {Q : Value → Shared → Prop}
    (h : wpAny (model P0 w) A (eval value env) (fun o s₁ => wpAny (model P0 w) A (eval st env) (fun vs s₄ =>
      ∃ x t u, o = .str x t ∧ vs = .int (-1) u ∧ x.length ≤ 1000000 ∧
        (∀ h' k t', (∀ b o, s₄.heap.get? b = some o → h'.get? b = some o) → Q (.str ⟨x.cps.toList.reverse.toArray⟩ t') { s₄ with heap := h', toks := k })) E s₁) E s) :
    wpAny (model P0 w) A (eval (.Subscript value (.Slice none none (some st) p) pos) env) Q E s := by
  refine Subscript_ (wpAny_mono h (fun o s₁ h₁ => wpAny_Slice (wpAny_pure (wpAny_pure (wpAny_mono h₁ (fun vs s₄ h₄ => ?_) fun _ _ e => e)))) fun _ _ e => e)
  obtain ⟨x, t, u, rfl, rfl, hlen, hQ⟩ := h₄
  refine subG (typeIs_str _ x t) F.slot_str_getitem.lookup rfl ?_
  refine wpAny_getItem_str_slice (l := none) (u := none) (st := some (-1, u)) ⟨_, Heap.get?_push_size _ rfl, rfl, rfl⟩ rfl ?_
  have e : sliceMade x t none none (some (-1, u)) = .str ⟨x.cps.toList.reverse.toArray⟩ := by
    unfold sliceMade
    rw [if_neg (by simp), rev_picked, List.filterMap_reverse]
    show Made.str ⟨((List.range x.cps.size).filterMap (x.cps[·]?)).reverse.toArray⟩ = _
    rw [krv_all]
  rw [e]
  dsimp only [Made.post]
  refine ⟨?_, hQ _ _ _ fun b o e => Heap.get?_push_of_some _ e⟩
  have e1 : (⟨x.cps.toList.reverse.toArray⟩ : Str).length = x.length := by simp [Str.length]
  rw [e1, sizeLine_val]
  omega
end
end Mine
end
noncomputable section
open PySem PySem.W PyProof.Rows PySem.Calls
set_option maxRecDepth 100000
namespace Mine
open Bbs
section
variable {w : World} {A : Around} {E : Value → Shared → Prop} {s : Shared}
theorem addL {l b : Addr} {vs ws : List Value} {Q : Value → Shared → Prop} (hl : s.heap.IsList l vs.toArray) (hb : s.heap.IsList b ws.toArray) (hz : vs.length + ws.length ≤ 1000)
    (hQ : ∀ a h', s.heap.get? a = none → h'.IsList a (vs ++ ws).toArray → (∀ b o, s.heap.get? b = some o → h'.get? b = some o) → Q (.ref a) { s with heap := h' }) :
    wpAny (model P0 w) A (binaryOp .Add (.ref l) (.ref b)) Q E s := by
  obtain ⟨⟨c1, d1, t1, s1⟩, o1, e1, n1, f1⟩ := id hl
  obtain ⟨⟨c2, d2, t2, s2⟩, o2, e2, n2, f2⟩ := id hb
  simp only at e1 f1 e2 f2
  subst e1 f1 e2 f2
  refine concat_meets ⟨_, o1, rfl⟩ ⟨_, o2, rfl⟩ noFill_list_add seq_list_add PySem.F.slot_list_add PySem.F.entry_list_add (PySem.F.args_list_add_2 _ _)
    (list_addW l b vs.toArray ws.toArray n1 n2 d1 d2 s1 s2 (by rw [sizeLine_val]; simp; omega)) ⟨o1, o2, ?_⟩
  rw [show vs.toArray ++ ws.toArray = (vs ++ ws).toArray by simp]
  exact hQ _ _ fresh_none ⟨_, Heap.get?_push_size _ rfl, rfl, _, rfl⟩ fun b o e => Heap.get?_push_of_some _ e
end
section
variable {w : World} {A : Around} {E : Value → Shared → Prop} {s : Shared} {name : Str} {scope : Scope} {L a : Addr} {cd : Value} {h₀ : Heap} {m : Str → Option Value}
/-- a loop over the items of a list; G: a list that the turns may change (L: none) -/
theorem iter_list {l G : Addr} {items : Array Value} {v : Str} {px : Pos} {body : List Stmt} {Q : Flow → Shared → Prop} (hh : A.handled = none) (hl : s.heap.IsList l items) (hlG : l ≠ G) (hG : G < s.heap.objs.size) (f : FX h₀ h₀ L s.heap m)
    (J : Nat → Heap → (Str → Option Value) → Prop)
    (hJ : ∀ i h h' m, J i h m → (∀ b o, b ≠ L → b < s.heap.objs.size → h.get? b = some o → h'.get? b = some o) → J i h' m) (h0 : J 0 s.heap m)
    (step : ∀ i x h₁ m₁ k₁, items[i]? = some x → FX h₀ h₀ L h₁ (upd m₁ v x) → J i h₁ m₁ → (∀ b o, b ≠ L → b ≠ G → s.heap.get? b = some o → h₁.get? b = some o) →
      wpAny (model P0 w) A (execs body (envOf name scope L a cd)) (fun fl s₂ => fl = .next ∧ ∃ h₂ k₂ m₂, s₂ = { s with heap := h₂, toks := k₂ } ∧ FX h₀ h₀ L h₂ m₂ ∧ (∀ b o, b ≠ L → b ≠ G → h₁.get? b = some o → h₂.get? b = some o) ∧ J (i + 1) h₂ m₂) (fun _ _ => False) { s with heap := h₁, toks := k₁ })
    (hQ : ∀ h' k m', FX h₀ h₀ L h' m' → J items.size h' m' → (∀ b o, b ≠ L → b ≠ G → s.heap.get? b = some o → h'.get? b = some o) → Q .next { s with heap := h', toks := k })
    (hk : scope.kind = .function := by rfl) (hlv : (envOf name scope L a cd).kindOf v = some .local := by rfl) :
    wpAny (model P0 w) A (pyIter (.ref l)) (fun it s₂ => codeAny (model P0 w) A (.forLoop (.Name v px) it body [] (envOf name scope L a cd))
      (fun r s' => match r with | .ok fl => Q fl s' | .error e => cameBackBy (model P0 w) A (envOf name scope L a cd) (fun _ _ => False) e s') s₂) E s := by
  have hp : (scope.kind == .class || (scope.kind == .module && L != mainGlobals)) = false := by rw [hk]; rfl
  have hlL : l ≠ L := list_ne_ns hl f.F.ns
  refine wpAny_pyIter_list hl ?_
  have hIL : s.heap.objs.size ≠ L := Nat.ne_of_gt f.F.ns.lt
  have hIG : s.heap.objs.size ≠ G := Nat.ne_of_gt hG
  obtain ⟨ol, hol, hol'⟩ := id hl
  have hlI : l ≠ s.heap.objs.size := Nat.ne_of_lt (Heap.lt_size hol)
  have hltL : L < s.heap.objs.size := f.F.ns.lt
  have hnew : ∀ b o, h₀.get? b = some o → b ≠ s.heap.objs.size := fun b o e q => by
    have h1 := Heap.lt_size (f.F.keep b o e)
    rw [q] at h1
    exact Nat.lt_irrefl _ h1
  refine codeAny_forLoop (fun n s' => ∃ h' tk m' i, s' = { s with heap := h', toks := tk } ∧ h'.IsListIter s.heap.objs.size l i ∧ FX h₀ h₀ L h' m' ∧ J i h' m' ∧ (∀ b o, b ≠ L → b ≠ G → s.heap.get? b = some o → h'.get? b = some o) ∧ i ≤ items.size ∧ n = items.size + 1 - i)
    ?_ (items.size + 1) ⟨_, _, m, 0, rfl, ⟨_, Heap.get?_push_size _ rfl, rfl, rfl⟩, (f.push _).base, hJ _ _ _ _ h0 fun b o _ _ e => Heap.get?_push_of_some _ e, fun b o _ _ e => Heap.get?_push_of_some _ e, Nat.zero_le _, rfl⟩
  rintro n s' ⟨h', tk, m', i, rfl, hit', f', hJ', hkp, hi, rfl⟩
  have hl' : h'.IsList l items := ⟨ol, hkp _ _ hlL hlG hol, hol'⟩
  cases hc : items[i]? with
  | none =>
    have hsz : i = items.size := Nat.le_antisymm hi (by simpa using hc)
    refine wpAny_pyNext_list_end hh hit' hl' hc fun h₁ he₁ => wpAny_execs_nil ?_
    refine hQ h₁ tk m' ⟨⟨f'.F.ns.extBut he₁ (Ne.symm hIL), fun b o e => he₁ b o (hnew b o e) (f'.F.keep b o e), f'.F.above⟩, fun b o nb e => he₁ b o (hnew b o e) (f'.F.keep b o e)⟩ ?_ fun b o h1 h2 e => he₁ b o (Nat.ne_of_lt (Heap.lt_size e)) (hkp b o h1 h2 e)
    rw [← hsz]
    exact hJ _ _ _ _ hJ' fun b o h1 h2 e => he₁ b o (Nat.ne_of_lt h2) e
  | some x =>
    have hlt : i < items.size := (Array.getElem?_eq_some_iff.mp hc).1
    refine wpAny_pyNext_list_item hit' hl' hc fun h₁ hit₁ hs₁ => ?_
    have f₁ : FX h₀ h₀ L h₁ m' := ⟨⟨f'.F.ns.sameBut hs₁ (Ne.symm hIL), fun b o e => (hs₁.2 b (hnew b o e)).trans (f'.F.keep b o e), f'.F.above⟩, fun b o nb e => (hs₁.2 b (hnew b o e)).trans (f'.F.keep b o e)⟩
    refine wpAny_assign_Name (wpAny_storeName_local hlv f₁.F.ns (fun h₂ hn₂ hs₂ => ?_) hp)
    have f₂ := (f₁.rebase.set hn₂ hs₂).base
    have up : ∀ b o, b ≠ L → b ≠ s.heap.objs.size → h'.get? b = some o → h₂.get? b = some o := fun b o h1 h2 e => hs₂.extBut b o h1 (hs₁.extBut b o h2 e)
    refine wpAny_passesOwn PassesOwn.never (wpAny_mono (step i x h₂ m' _ hc f₂ (hJ _ _ _ _ hJ' fun b o h1 h2 e => up b o h1 (Nat.ne_of_lt h2) e) fun b o h1 h2 e => up b o h1 (Nat.ne_of_lt (Heap.lt_size e)) (hkp b o h1 h2 e)) (fun fl s₃ h₃ => ?_) fun _ _ e => e)
    obtain ⟨rfl, h₃', k₃, m₂, rfl, f₃, hk₃, hJ₃⟩ := h₃
    refine ⟨items.size + 1 - (i + 1), by omega, h₃', k₃, m₂, i + 1, rfl, ?_, f₃, hJ₃, fun b o h1 h2 e => hk₃ b o h1 h2 (up b o h1 (Nat.ne_of_lt (Heap.lt_size e)) (hkp b o h1 h2 e)), hlt, rfl⟩
    obtain ⟨oI, e1, e2, e3⟩ := hit₁
    exact ⟨oI, hk₃ _ _ hIL hIG (hs₂.extBut _ _ hIL e1), e2, e3⟩
end
end Mine
end
noncomputable section
open PySem PySem.W PyProof.Rows PySem.Calls
set_option maxRecDepth 100000
namespace Mine
open Bbs
/-- the boxes of one item, as meant -/
def sgn2 (c : Bool) : Nat := if c then 115 else 116
def tx (l : List Bool) : Str := ⟨(l.map sgn2).toArray⟩
def mb (x : Nat) : List Bool := (meantOf x).cps.toList.map (· == 115)
def itemOk (x : Nat) : Bool := (meantOf x).cps.toList.all (fun c => c == 115 || c == 116) && decide ((meantOf x).length ≤ 2) && (if inB1 (signOf x) then decide ((meantOf x).cps.toList = []) else decide ((mapB3 (signOf x)).cps.toList = (meantOf x).cps.toList))
theorem items_ok : (List.range 168).all itemOk = true := by decide +kernel
theorem join_empty : ∀ l : List Str, (Txt.join (Str.ofString "") l).cps.toList = l.flatMap fun x => x.cps.toList := by
  have e : Str.ofString "" = ⟨#[]⟩ := by decide +kernel
  rw [e]
  intro l
  have h := beq_iff_eq.mp (PyProof.Rows.join_plain_closes ⟨#[]⟩ l)
  rw [h]
  clear h
  induction l with
  | nil => rfl
  | cons x r ih =>
    rw [join_nil_cons, List.flatMap_cons, ← ih]
    show (x.cps ++ _).toList = _
    simp
theorem tx_toList (l : List Bool) : (tx l).cps.toList = l.map sgn2 := by simp [tx]
theorem item_of {x : Nat} (h : x < 168) : (meantOf x).cps.toList = (mb x).map sgn2 ∧ (mb x).length ≤ 2 ∧ (inB1 (signOf x) = true → mb x = []) ∧ (inB1 (signOf x) = false → (mapB3 (signOf x)).cps.toList = (mb x).map sgn2) := by
  have q := List.all_eq_true.mp items_ok x (List.mem_range.mpr h)
  unfold itemOk at q
  simp only [Bool.and_eq_true, decide_eq_true_eq] at q
  obtain ⟨⟨q1, q2⟩, q3⟩ := q
  have e : (meantOf x).cps.toList = (mb x).map sgn2 := by
    unfold mb
    rw [List.map_map]
    conv => lhs; rw [← List.map_id (meantOf x).cps.toList]
    refine List.map_congr_left fun c hc => ?_
    have := List.all_eq_true.mp q1 c hc
    simp only [Bool.or_eq_true, beq_iff_eq] at this
    rcases this with rfl | rfl <;> rfl
  refine ⟨e, ?_, fun hb => ?_, fun hb => ?_⟩
  · unfold mb; rw [List.length_map]; simpa [Str.length] using q2
  · rw [hb] at q3
    have := of_decide_eq_true q3
    unfold mb; rw [this]; rfl
  · rw [hb] at q3
    have := of_decide_eq_true q3
    rw [this, e]
def startOf (ds : List Nat) : List Bool := ds.flatMap mb
theorem meant_join : ∀ {ds : List Nat}, (∀ x ∈ ds, x < 168) → (ds.map meantOf).flatMap (fun x => x.cps.toList) = (startOf ds).map sgn2
  | [], _ => rfl
  | x :: ds, h => by
    rw [List.map_cons, List.flatMap_cons, meant_join fun y hy => h y (.tail _ hy), (item_of (h x (.head _))).1]
    show _ = ((mb x) ++ startOf ds).map sgn2
    rw [List.map_append]
theorem prep_join : ∀ {ds : List Nat}, (∀ x ∈ ds, x < 168) → ((ds.filter fun x => !inB1 (signOf x)).map fun x => mapB3 (signOf x)).flatMap (fun x => x.cps.toList) = (startOf ds).map sgn2
  | [], _ => rfl
  | x :: ds, h => by
    have ih := prep_join (ds := ds) fun y hy => h y (.tail _ hy)
    obtain ⟨_, _, h1, h2⟩ := item_of (h x (.head _))
    show _ = ((mb x) ++ startOf ds).map sgn2
    rw [List.map_append]
    cases hb : inB1 (signOf x)
    · rw [List.filter_cons_of_pos (by simp [hb]), List.map_cons, List.flatMap_cons, ih, h2 hb]
    · rw [List.filter_cons_of_neg (by simp [hb]), ih, h1 hb]; rfl
theorem start_length : ∀ {ds : List Nat}, (∀ x ∈ ds, x < 168) → (startOf ds).length ≤ 2 * ds.length
  | [], _ => by simp [startOf]
  | x :: ds, h => by
    have ih := start_length (ds := ds) fun y hy => h y (.tail _ hy)
    obtain ⟨_, h1, _⟩ := item_of (h x (.head _))
    show ((mb x) ++ startOf ds).length ≤ _
    rw [List.length_append, List.length_cons]; omega
/-- one sign for another -/
theorem subR_sign (a b : Nat) : ∀ (n : Nat) (l : List Nat), l.length ≤ n → subR [a] [b] n l = l.map fun c => if c = a then b else c
  | 0, l, h => by
    have : l = [] := List.eq_nil_of_length_eq_zero (by omega)
    subst this; rfl
  | n + 1, [], _ => by simp [subR]
  | n + 1, c :: l, h => by
    have ih := subR_sign a b n l (by simpa using h)
    unfold subR
    by_cases q : c = a
    · subst q; simp [ih]
    · have : ((List.take ([a] : List Nat).length (c :: l)) == [a]) = false := by simp [q]
      rw [this]
      simp [ih, q]
theorem start_replace {x : Str} {l : List Bool} (h : x.cps.toList = l.map sgn2) : Txt.replace (Txt.replace x (Str.ofString "s") (Str.ofString ".")) (Str.ofString "t") (Str.ofString "\n") = enc l := by
  refine enc_of_toList ?_
  have hlen : x.length = l.length := by show x.cps.size = _; rw [← Array.length_toList, h, List.length_map]
  have e1 : (Txt.replace x (Str.ofString "s") (Str.ofString ".")).cps.toList = l.map fun c => if c then 46 else 116 := by
    rw [replace_subR _ _ _ (by decide +kernel), show (Str.ofString "s").cps.toList = [115] by decide +kernel, show (Str.ofString ".").cps.toList = [46] by decide +kernel, subR_sign _ _ _ _ (by rw [h, List.length_map, hlen]; omega), h, List.map_map]
    refine List.map_congr_left fun c _ => ?_
    cases c <;> rfl
  have hlen2 : (Txt.replace x (Str.ofString "s") (Str.ofString ".")).length = l.length := by show (Txt.replace x _ _).cps.size = _; rw [← Array.length_toList, e1, List.length_map]
  rw [replace_subR _ _ _ (by decide +kernel), show (Str.ofString "t").cps.toList = [116] by decide +kernel, show (Str.ofString "\n").cps.toList = [10] by decide +kernel, subR_sign _ _ _ _ (by rw [e1, List.length_map, hlen2]; omega), e1, List.map_map]
  refine List.map_congr_left fun c _ => ?_
  cases c <;> rfl
end Mine
end
noncomputable section
open PySem PySem.W PyProof.Rows PySem.Calls
set_option maxRecDepth 100000
namespace Mine
open Bbs
def lawSt (i : Nat) : Stmt := ((dLaw.body[i]? : Option Stmt)).getD (.Pass default)
abbrev lawSc : Scope := dLaw.scope
abbrev lawE (L : Addr) : Env := envOf "law" lawSc L 150 (.ref 149)
/-- one statement done: the locals are m', all but the frame's own table and G stands -/
structure Done (h₀ : Heap) (L G : Addr) (s : Shared) (m' : Str → Option Value) (s₂ : Shared) : Prop where
  same : s₂ = { s with heap := s₂.heap, toks := s₂.toks }
  fx : FX h₀ h₀ L s₂.heap m'
  kp : ∀ b o, b ≠ L → b ≠ G → s.heap.get? b = some o → s₂.heap.get? b = some o
def dfltN : List Nat := match lawSt 0 with
  | .Assign _ (.BinOp _ _ (.Subscript (.List es _) _ _) _) _ => (natPs es).map (·.1)
  | _ => []
def drawsOf (ns : List Int) : List Nat := ((ns.take 10).map fun n => (n % 168).toNat) ++ dfltN.drop (ns.take 10).length
theorem dflt_ok : dfltN.length = 10 ∧ ∀ x ∈ dfltN, x < 168 := by decide +kernel
theorem draws_length (ns : List Int) : (drawsOf ns).length = 10 := by
  unfold drawsOf
  rw [List.length_append, List.length_map, List.length_drop, dflt_ok.1]
  have : (ns.take 10).length ≤ 10 := List.length_take_le _ _
  omega
theorem draws_lt {ns : List Int} : ∀ x ∈ drawsOf ns, x < 168 := fun x hx => by
  unfold drawsOf at hx
  rcases List.mem_append.mp hx with hx | hx
  · obtain ⟨n, _, rfl⟩ := List.mem_map.mp hx
    omega
  · exact dflt_ok.2 x (List.mem_of_mem_drop hx)
theorem ints_get : ∀ {vs : List Value} {ns : List Int} {i : Nat} {v : Value} {n : Int}, IntsAre vs ns → vs[i]? = some v → ns[i]? = some n → ∃ t, v = .int n t
  | _, _, i, v, n, .nil, h, _ => by simp at h
  | _, _, 0, v, n, .cons m t r, h, h' => by simp at h h'; exact ⟨t, by rw [← h, h']⟩
  | _, _, i + 1, v, n, .cons m t r, h, h' => ints_get r (by simpa using h) (by simpa using h')
theorem paired_append {α β : Type} {R : α → β → Prop} : ∀ {l₁ l₂ : List α} {k₁ k₂ : List β}, Paired R l₁ k₁ → Paired R l₂ k₂ → Paired R (l₁ ++ l₂) (k₁ ++ k₂)
  | _, _, _, _, .nil, h => h
  | _, _, _, _, .cons a r, h => .cons a (paired_append r h)
theorem paired_drop {α β : Type} {R : α → β → Prop} : ∀ {l : List α} {k : List β} (n : Nat), Paired R l k → Paired R (l.drop n) (k.drop n)
  | _, _, 0, h => h
  | _, _, n + 1, .nil => .nil
  | _, _, n + 1, .cons _ r => paired_drop n r
theorem paired_take {α β : Type} {R : α → β → Prop} : ∀ {l : List α} {k : List β} (n : Nat), Paired R l k → Paired R (l.take n) (k.take n)
  | _, _, 0, h => .nil
  | _, _, n + 1, .nil => .nil
  | _, _, n + 1, .cons a r => .cons a (paired_take n r)
theorem paired_map {α β γ : Type} {R : γ → β → Prop} {f : α → γ} : ∀ {l : List α} {k : List β}, Paired (fun a v => R (f a) v) l k → Paired R (l.map f) k
  | _, _, .nil => .nil
  | _, _, .cons a r => .cons a (paired_map r)
section
variable {w : World} {A : Around} {s : Shared} {h₀ : Heap} {L : Addr} {m : Str → Option Value}
theorem pick_to (vs : List Value) (n : Nat) : slicePick vs.toArray none (some (n : Int)) none = (vs.take n).toArray := by rw [slicePick_upto']
theorem pick_from (vs : List Value) (n : Nat) : slicePick vs.toArray (some (n : Int)) none none = (vs.drop n).toArray := by rw [slicePick_from']
/-- `script[:10]` -/
theorem l_head {E : Value → Shared → Prop} {Q : Value → Shared → Prop} {l : Addr} {vs : List Value} {px p1 p2 p3 : Pos} {kk : Nat} (F : FX h₀ h₀ L s.heap m) (ms : m "script" = some (.ref l)) (hl : s.heap.IsList l vs.toArray) (hv : vs.length ≤ 63)
    (hQ : ∀ a h' k, h'.IsList a (vs.take 10).toArray → (∀ b o, s.heap.get? b = some o → h'.get? b = some o) → Q (.ref a) { s with heap := h', toks := k }) :
    wpAny (model P0 w) A (eval (.Subscript (.Name "script" px) (.Slice none (some (.Constant (.int 10) kk p1)) none p2) p3) (lawE L)) Q E s := by
  refine sliceG (ld F.F ms (wpAny_pure (wpAny_Constant_int (k := kk) (pos := p1) (wpAny_pure ⟨l, _, none, some 10, none, rfl, hl, by rw [List.size_toArray]; omega, .none, .int _ _, .none, by simp, fun a h' _ h2 h3 => ?_⟩))))
  rw [show (10 : Int) = ((10 : Nat) : Int) from rfl, pick_to] at h2
  exact hQ a h' _ h2 h3
set_option maxHeartbeats 1000000 in
theorem l_draws {l : Addr} {vs : List Value} {ns : List Int} (hK : (KF w.params).In h₀) (hh : A.handled = none) (F : FX h₀ h₀ L s.heap m) (ms : m "script" = some (.ref l)) (hl : s.heap.IsList l vs.toArray) (hi : IntsAre vs ns) (hn : ns.length ≤ 63) :
    wpAny (model P0 w) A (exec (lawSt 0) (lawE L)) (fun fl s₂ => fl = .next ∧ ∃ a us, Done h₀ L L s (upd m "draws" (.ref a)) s₂ ∧ s₂.heap.IsList a us.toArray ∧ Ints us (drawsOf ns)) (fun _ _ => False) s := by
  have hlen := hi.length
  have hK₁ := hK.keeps F.F.keep
  refine wpAny_Assign_Name ?q1 (hs := ?q2)
  case q2 => kernel_rfl
  refine wpAny_BinOp ?_
  refine lcE (ns.take 10) (fun _ => true) (fun _ (n : Int) v => ∃ t, v = .int (((n % 168).toNat : Nat) : Int) t) (fun n m' => ∃ t, m' "x" = some (.int n t)) hh (l_head F ms hl (by omega) fun a₁ h₁ k₁ l₁ kp₁ => ⟨a₁, _, rfl, l₁, ?ok, ?rest⟩)
  case ok =>
    refine ⟨by simp [hlen], by simp; omega, fun _ _ _ _ q _ => q, fun C I ax i v a s₂ m₂ j Q E' h1 h2 hn _ kp' hQ => ?_, fun C a s₂ m₂ E' _ _ _ _ _ => wpAny_tests_nil ⟨rfl, _, _, rfl, fun _ _ e => e⟩, fun C a s₂ m₂ E' hal _ hn hm kp' _ => ?_⟩
    · obtain ⟨t, rfl⟩ := ints_get (hi.take 10) (by simpa using h1) h2
      exact asgN hn fun h' m' k q1 q2 q3 => hQ h' m' k q1 ⟨t, q2⟩ q3
    · obtain ⟨t, hm⟩ := hm
      refine wpAny_BinOp (ldC hn hm (wpAny_Constant_int (mod_int (by decide) ?_)))
      have : a.fmod 168 = ((a % 168).toNat : Int) := by
        rw [Int.fmod_eq_emod_of_nonneg _ (by decide), Int.toNat_of_nonneg (Int.emod_nonneg _ (by decide))]
      rw [this]
      exact ⟨⟨_, rfl⟩, _, _, rfl, fun _ _ e => e⟩
  case rest =>
    intro D h₂ k₂ ys hD lD hP kp₂
    rw [List.filter_eq_self.mpr (by simp)] at hP
    have F₂ := (F.keeps kp₁).keeps kp₂
    have hl₂ := (hl.at fun o e => kp₁ _ _ e).at fun o e => kp₂ _ _ e
    have hK₂ := hK.keeps F₂.F.keep
    refine sliceG ?_
    refine listI (ns := dfltN) ?d1 ?d2 ?d3 ?d4
    case d1 => kernel_rfl
    case d2 => kernel_rfl
    case d3 => decide +kernel
    intro aT h₃ vT k₃ iT nT lT kp₃
    have F₃ := F₂.keeps kp₃
    have hl₃ := hl₂.at fun o e => kp₃ _ _ e
    have lD₃ := lD.at fun o e => kp₃ _ _ e
    have hK₃ := hK.keeps F₃.F.keep
    refine Call_ (gb hK₃ (v := .builtin "len") (by kernel_rfl) (by kernel_rfl) (callWith_builtin1 (args_cons ?_)))
    refine l_head F₃ ms hl₃ (by omega) fun a₄ h₄ k₄ l₄ kp₄ => ?_
    have lD₄ := lD₃.at fun o e => kp₄ _ _ e
    have lT₄ := lT.at fun o e => kp₄ _ _ e
    have F₄ := F₃.keeps kp₄
    have e4 : (vs.take 10).length = (ns.take 10).length := by simp [hlen]
    refine args_nil (lenN l₄ e4 (Nat.le_trans (List.length_take_le _ _) (by decide)) ?_)
    refine wpAny_pure (wpAny_pure ⟨aT, _, some ((ns.take 10).length : Nat), none, none, rfl, lT₄, ?_, .int _ _, .none, .none, by simp, ?_⟩)
    · rw [List.size_toArray, ← iT.length, dflt_ok.1]; decide
    intro a₅ h₅ _ l₅ kp₅
    rw [pick_from] at l₅
    have lD₅ := lD₄.at fun o e => kp₅ _ _ e
    have F₅ := F₄.keeps kp₅
    have hIall : Ints (ys.toList ++ vT.drop (ns.take 10).length) (drawsOf ns) := paired_append (paired_map hP) (paired_drop _ iT)
    have hlenall := hIall.length
    rw [draws_length, List.length_append] at hlenall
    refine addL (vs := ys.toList) (by simpa using lD₅) l₅ (by omega) fun a₆ h₆ _ l₆ kp₆ => ?_
    have F₆ := F₅.keeps kp₆
    refine stX F₆.rebase fun h₇ F₇ => ?_
    refine ⟨rfl, a₆, _, ⟨rfl, F₇.base, fun b o h1 _ e => F₇.X _ _ h1 (kp₆ _ _ (kp₅ _ _ (kp₄ _ _ (kp₃ _ _ (kp₂ _ _ (kp₁ _ _ e))))))⟩, l₆.at fun o e => F₇.X _ _ (list_ne_ns l₆ F₆.F.ns) e, hIall⟩
end
end Mine
end
noncomputable section
open PySem PySem.W PyProof.Rows PySem.Calls
set_option maxRecDepth 100000
namespace Mine
open Bbs
section
variable {w : World} {A : Around} {s : Shared} {h₀ : Heap} {L : Addr} {m : Str → Option Value}
/-- `name[:k]` -/
theorem upto_ {E : Value → Shared → Prop} {Q : Value → Shared → Prop} {x : Str} {c : Int} {n : Nat} {l : Addr} {vs : List Value} {px p1 p2 p3 : Pos} {kk : Nat} (F : FX h₀ h₀ L s.heap m) (ms : m x = some (.ref l)) (hl : s.heap.IsList l vs.toArray) (hv : vs.length ≤ 1000) (hc : c = (n : Int))
    (hQ : ∀ a h' k, h'.IsList a (vs.take n).toArray → (∀ b o, s.heap.get? b = some o → h'.get? b = some o) → Q (.ref a) { s with heap := h', toks := k })
    (hloc : (lawE L).kindOf x = some .local := by rfl) (hdb : (x == ("__debug__" : Str)) = false := by decide) :
    wpAny (model P0 w) A (eval (.Subscript (.Name x px) (.Slice none (some (.Constant (.int c) kk p1)) none p2) p3) (lawE L)) Q E s := by
  subst hc
  refine sliceG (ld (hl := hloc) (hd := hdb) F.F ms (wpAny_pure (wpAny_Constant_int (k := kk) (pos := p1) (wpAny_pure ⟨l, _, none, some (n : Int), none, rfl, hl, by rw [List.size_toArray]; omega, .none, .int _ _, .none, by simp, fun a h' _ h2 h3 => ?_⟩))))
  rw [pick_to] at h2
  exact hQ a h' _ h2 h3
theorem from_ {E : Value → Shared → Prop} {Q : Value → Shared → Prop} {x : Str} {c : Int} {n : Nat} {l : Addr} {vs : List Value} {px p1 p2 p3 : Pos} {kk : Nat} (F : FX h₀ h₀ L s.heap m) (ms : m x = some (.ref l)) (hl : s.heap.IsList l vs.toArray) (hv : vs.length ≤ 1000) (hc : c = (n : Int))
    (hQ : ∀ a h' k, h'.IsList a (vs.drop n).toArray → (∀ b o, s.heap.get? b = some o → h'.get? b = some o) → Q (.ref a) { s with heap := h', toks := k })
    (hloc : (lawE L).kindOf x = some .local := by rfl) (hdb : (x == ("__debug__" : Str)) = false := by decide) :
    wpAny (model P0 w) A (eval (.Subscript (.Name x px) (.Slice (some (.Constant (.int c) kk p1)) none none p2) p3) (lawE L)) Q E s := by
  subst hc
  refine sliceG (ld (hl := hloc) (hd := hdb) F.F ms (wpAny_Constant_int (k := kk) (pos := p1) (wpAny_pure (wpAny_pure ⟨l, _, some (n : Int), none, none, rfl, hl, by rw [List.size_toArray]; omega, .int _ _, .none, .none, by simp, fun a h' _ h2 h3 => ?_⟩))))
  rw [pick_from] at h2
  exact hQ a h' _ h2 h3
/-- a pair of texts -/
def PairAt (h : Heap) (x : Nat) (v : Value) : Prop := ∃ a t1 t2, v = .ref a ∧ h.get? a = some ⟨.type "tuple", none, .seq #[.str (meantOf x) t1, .str ⟨#[signOf x]⟩ t2] 0, #[]⟩
theorem PairAt.mono {h h' : Heap} {x : Nat} {v : Value} (p : PairAt h x v) (k : TupKept h h') : PairAt h' x v := by
  obtain ⟨a, t1, t2, e, g⟩ := p
  exact ⟨a, t1, t2, e, k _ _ rfl ⟨_, _, rfl⟩ g⟩
theorem PairAt.tup {h : Heap} {x : Nat} {v : Value} (p : PairAt h x v) : ∃ a t1 t2, v = .ref a ∧ IsTup h a #[.str (meantOf x) t1, .str ⟨#[signOf x]⟩ t2] := by
  obtain ⟨a, t1, t2, e, g⟩ := p
  exact ⟨a, t1, t2, e, _, g, rfl, _, rfl⟩
set_option maxHeartbeats 1000000 in
theorem l_items {l : Addr} {vs : List Value} {ds : List Nat} (hK : (KF w.params).In h₀) (hd : A.depth < 900) (hh : A.handled = none) (F : FX h₀ h₀ L s.heap m) (ms : m "draws" = some (.ref l)) (hl : s.heap.IsList l vs.toArray) (hi : Ints vs ds) (hn : ds.length ≤ 100) (hlt : ∀ x ∈ ds, x < 168) :
    wpAny (model P0 w) A (exec (lawSt 1) (lawE L)) (fun fl s₂ => fl = .next ∧ ∃ a us, Done h₀ L L s (upd m "items" (.ref a)) s₂ ∧ s₂.heap.IsList a us.toArray ∧ Paired (PairAt s₂.heap) (ds.take 7) us) (fun _ _ => False) s := by
  have hlen := hi.length
  refine lcA (ds.take 7) (fun _ => true) PairAt (fun x m' => ∃ t, m' "x" = some (.int (x : Nat) t)) hh (upto_ (n := 7) F ms hl (by omega) rfl fun a₁ h₁ k₁ l₁ kp₁ => ⟨a₁, _, rfl, l₁, ?ok, F.keeps kp₁, ?rest⟩) (hsw := ?sw)
  case sw => kernel_rfl
  case ok =>
    have hK₁ := hK.keeps (F.keeps kp₁).F.keep
    refine ⟨by simp [hlen], by simp; omega, fun _ _ _ _ q k => q.mono k, fun C I ax i v a s₂ m₂ j Q E' h1 h2 hn _ kp' hQ => ?_, fun C a s₂ m₂ E' _ _ _ _ _ => wpAny_tests_nil ⟨rfl, _, _, rfl, fun _ _ e => e⟩, fun C a s₂ m₂ E' hal _ hn hm kp' _ => ?_⟩
    · obtain ⟨t, ht⟩ := (show Ints (vs.take 7) (ds.take 7) from paired_take 7 hi).at h2
      rw [List.getElem?_toArray, ht] at h1
      cases h1
      exact asgN hn fun h' m' k q1 q2 q3 => hQ h' m' k q1 ⟨t, q2⟩ q3
    · obtain ⟨t, hm⟩ := hm
      have hK₅ := hK₁.keeps kp'
      have hlt' := hlt a (List.mem_of_mem_take hal)
      refine Call_ (glC hK₅ (v := .ref 133) (by kernel_rfl) (callWith_def (o := o133S20 w.params) rfl (args_cons (ldC hn hm (args_nil ⟨hK₅ _ _ rfl, ?_⟩)))))
      refine callC (c_item (by exact hK₅) hd a hlt' t) ?_
      rintro v h' tk kp ⟨b, t1, t2, rfl, _, g⟩
      exact ⟨⟨b, t1, t2, rfl, g⟩, _, _, rfl, kp⟩
  case rest =>
    intro D h₂ k₂ ys hD hDL lD hP F₂ kp₂
    rw [List.filter_eq_self.mpr (by simp)] at hP
    exact ⟨rfl, D, ys.toList, ⟨rfl, F₂, fun b o h1 _ e => kp₂ b o h1 (kp₁ _ _ e)⟩, by simpa using lD, hP⟩
end
end Mine
end
noncomputable section
open PySem PySem.W PyProof.Rows PySem.Calls
set_option maxRecDepth 100000
namespace Mine
open Bbs
theorem paired_strs {α : Type} {g : α → Str} : ∀ {l : List α} {k : List Value}, Paired (fun a v => ∃ t, v = Value.str (g a) t) l k → StrsAre k (l.map g)
  | _, _, .nil => .nil
  | _, _, .cons ⟨t, e⟩ r => by rw [e]; exact .cons _ _ (paired_strs r)
theorem paired_get {α β : Type} {R : α → β → Prop} : ∀ {l : List α} {k : List β} {i : Nat} {a : α} {b : β}, Paired R l k → k[i]? = some b → l[i]? = some a → R a b
  | _, _, i, a, b, .nil, h, _ => by simp at h
  | _, _, 0, a, b, .cons r _, h, h' => by simp at h h'; subst h h'; exact r
  | _, _, i + 1, a, b, .cons _ r, h, h' => paired_get r (by simpa using h) (by simpa using h')
theorem sum_le_of {l : List Str} (n : Nat) (h : ∀ x ∈ l, x.length ≤ n) : (l.map (·.length)).sum ≤ n * l.length := by
  induction l with
  | nil => simp
  | cons x l ih =>
    have := ih fun y hy => h y (.tail _ hy)
    have := h x (.head _)
    rw [List.map_cons, List.sum_cons, List.length_cons, Nat.mul_succ]; omega
section
variable {w : World} {A : Around} {s : Shared} {h₀ : Heap} {L : Addr} {m : Str → Option Value}
theorem item_lens {x : Nat} (h : x < 168) : (inB1 (signOf x) = false → (mapB3 (signOf x)).length ≤ 2) ∧ (meantOf x).length ≤ 2 := by
  obtain ⟨h1, h2, _, h4⟩ := item_of h
  refine ⟨fun hb => ?_, ?_⟩
  · show (mapB3 (signOf x)).cps.size ≤ 2
    rw [← Array.length_toList, h4 hb, List.length_map]; exact h2
  · show (meantOf x).cps.size ≤ 2
    rw [← Array.length_toList, h1, List.length_map]; exact h2
set_option maxHeartbeats 1000000 in
theorem l_prepared {l : Addr} {vs : List Value} {ds : List Nat} (hK : (KF w.params).In h₀) (hd : A.depth < 900) (hh : A.handled = none) (F : FX h₀ h₀ L s.heap m) (ms : m "items" = some (.ref l)) (hl : s.heap.IsList l vs.toArray) (hi : Paired (PairAt s.heap) ds vs) (hn : ds.length ≤ 100) (hlt : ∀ x ∈ ds, x < 168) :
    wpAny (model P0 w) A (exec (lawSt 2) (lawE L)) (fun fl s₂ => fl = .next ∧ ∃ x t, Done h₀ L L s (upd m "prepared" (.str x t)) s₂ ∧ x.cps.toList = (startOf ds).map sgn2) (fun _ _ => False) s := by
  have hlen := hi.length
  have hK₁ := hK.keeps F.F.keep
  refine wpAny_Assign_Name ?q1 (hs := ?q2)
  case q2 => kernel_rfl
  refine MethodCall_ (wpAny_Constant_str (GM.join (callWith_method1 (args_cons (lcE ds (fun x => !inB1 (signOf x)) (fun _ x v => ∃ t, v = Value.str (mapB3 (signOf x)) t)
    (fun x m' => ∃ t1 t2, m' "meant" = some (.str (meantOf x) t1) ∧ m' "sign" = some (.str ⟨#[signOf x]⟩ t2)) hh (ld F.F ms ⟨l, _, rfl, hl, ?ok, ?rest⟩))))))
  case ok =>
    refine ⟨by simp [hlen], by simp; omega, fun _ _ _ _ q _ => q, fun C I ax i v a s₂ m₂ j Q E' h1 h2 hn hit kp' hQ => ?_, fun C a s₂ m₂ E' hal hn hm kp' _ => ?_, fun C a s₂ m₂ E' hal _ hn hm kp' _ => ?_⟩
    · rw [List.getElem?_toArray] at h1
      obtain ⟨b, t1, t2, rfl, o, e1, e2⟩ := (paired_get hi h1 h2).tup
      exact asgP hh hn hit ⟨o, kp' _ _ e1, e2⟩ fun h' m' k q1 q2 q3 q4 => hQ h' m' k q1 ⟨t1, t2, q2, q3⟩ q4
    · obtain ⟨t1, t2, hm1, hm2⟩ := hm
      have hK₅ := hK₁.keeps kp'
      refine wpAny_tests_one (wpAny_isTrue_Not (wpAny_isTrue_value (Call_ (glC hK₅ (v := .ref 66) (by kernel_rfl) (callWith_def (o := o66S8 w.params) rfl (args_cons (ldC hn hm2 (args_nil ⟨hK₅ _ _ rfl, ?_⟩))))))))
      refine callC (c_inb1 (by exact hK₅) (Nat.lt_trans hd (by decide)) (signOf a) t2) ?_
      rintro v h' tk kp rfl
      exact wpAny_truthy_bool ⟨rfl, _, _, rfl, kp⟩
    · obtain ⟨t1, t2, hm1, hm2⟩ := hm
      have hK₅ := hK₁.keeps kp'
      refine Call_ (glC hK₅ (v := .ref 112) (by kernel_rfl) (callWith_def (o := o112S20 w.params) rfl (args_cons (ldC hn hm2 (args_nil ⟨hK₅ _ _ rfl, ?_⟩)))))
      refine callC (c_mapb3 (by exact hK₅) (Nat.lt_trans hd (by decide)) (signOf a) t2) ?_
      rintro v h' tk kp ⟨tk', rfl⟩
      exact ⟨⟨_, rfl⟩, _, _, rfl, kp⟩
  case rest =>
    intro D h₂ k₂ ys hD lD hP kp₂
    have F₂ := F.keeps kp₂
    have hS := paired_strs hP
    refine args_nil (join_list lD hS ?_ fun t' k => ?_)
    · have : ∀ x ∈ (ds.filter fun x => !inB1 (signOf x)).map fun x => mapB3 (signOf x), x.length ≤ 2 := fun x hx => by
        obtain ⟨y, hy, rfl⟩ := List.mem_map.mp hx
        obtain ⟨hy1, hy2⟩ := List.mem_filter.mp hy
        exact (item_lens (hlt y hy1)).1 (by simpa using hy2)
      have h1 := sum_le_of 2 this
      have h2 : (ds.filter fun x => !inB1 (signOf x)).length ≤ ds.length := List.length_filter_le _ _
      rw [List.length_map] at h1 ⊢
      have e0 : (Str.ofString "").length = 0 := by decide +kernel
      rw [e0]; omega
    · refine stX F₂.rebase fun h₃ F₃ => ?_
      exact ⟨rfl, _, _, ⟨rfl, F₃.base, fun b o h1 _ e => F₃.X _ _ h1 (kp₂ _ _ e)⟩, by rw [join_empty]; exact prep_join hlt⟩
end
end Mine
end
noncomputable section
open PySem PySem.W PyProof.Rows PySem.Calls
set_option maxRecDepth 100000
namespace Mine
open Bbs
section
variable {w : World} {A : Around} {s : Shared} {h₀ : Heap} {L : Addr} {m : Str → Option Value}
theorem neS {E : Value → Shared → Prop} {Q : Value → Shared → Prop} {x y : Str} {t u : Tok} (he : x = y) (h : Q (.bool false) s) : wpAny (model P0 w) A (compareOp .NotEq (.str x t) (.str y u)) Q E s := by
  subst he
  refine PyProof.Rows.ne_str ?_
  rw [bne_self_eq_false]; exact h
theorem str_of_list {x y : Str} (h : x.cps.toList = y.cps.toList) : x = y := Str.ext' (Array.toList_inj.mp h)
set_option maxHeartbeats 1000000 in
theorem l_same {l : Addr} {vs : List Value} {ds : List Nat} {x : Str} {t : Tok} (hK : (KF w.params).In h₀) (hd : A.depth < 900) (hh : A.handled = none) (F : FX h₀ h₀ L s.heap m) (ms : m "items" = some (.ref l)) (mp : m "prepared" = some (.str x t)) (hx : x.cps.toList = (startOf ds).map sgn2)
    (hl : s.heap.IsList l vs.toArray) (hi : Paired (PairAt s.heap) ds vs) (hn : ds.length ≤ 100) (hlt : ∀ x ∈ ds, x < 168) :
    wpAny (model P0 w) A (exec (lawSt 3) (lawE L)) (fun fl s₂ => fl = .next ∧ Done h₀ L L s m s₂) (fun _ _ => False) s := by
  have hlen := hi.length
  refine wpAny_If (wpAny_isTrue_Compare1 (ld F.F mp ?_))
  refine MethodCall_ (wpAny_Constant_str (GM.join (callWith_method1 (args_cons (lcE ds (fun x => true) (fun _ x v => ∃ t, v = Value.str (meantOf x) t)
    (fun x m' => ∃ t1 t2, m' "meant" = some (.str (meantOf x) t1) ∧ m' "sign" = some (.str ⟨#[signOf x]⟩ t2)) hh (ld F.F ms ⟨l, _, rfl, hl, ?ok, ?rest⟩))))))
  case ok =>
    refine ⟨by simp [hlen], by simp; omega, fun _ _ _ _ q _ => q, fun C I ax i v a s₂ m₂ j Q E' h1 h2 hn hit kp' hQ => ?_, fun C a s₂ m₂ E' _ _ _ _ _ => wpAny_tests_nil ⟨rfl, _, _, rfl, fun _ _ e => e⟩, fun C a s₂ m₂ E' hal _ hn hm kp' _ => ?_⟩
    · rw [List.getElem?_toArray] at h1
      obtain ⟨b, t1, t2, rfl, o, e1, e2⟩ := (paired_get hi h1 h2).tup
      exact asgP hh hn hit ⟨o, kp' _ _ e1, e2⟩ fun h' m' k q1 q2 q3 q4 => hQ h' m' k q1 ⟨t1, t2, q2, q3⟩ q4
    · obtain ⟨t1, t2, hm1, hm2⟩ := hm
      exact ldC hn hm1 ⟨⟨_, rfl⟩, _, _, rfl, fun _ _ e => e⟩
  case rest =>
    intro D h₂ k₂ ys hD lD hP kp₂
    rw [List.filter_eq_self.mpr (by simp)] at hP
    have F₂ := F.keeps kp₂
    have hS := paired_strs hP
    refine args_nil (join_list lD hS ?_ fun t' k => ?_)
    · have : ∀ x ∈ ds.map meantOf, x.length ≤ 2 := fun x hx => by
        obtain ⟨y, hy, rfl⟩ := List.mem_map.mp hx
        exact (item_lens (hlt y hy)).2
      have h1 := sum_le_of 2 this
      rw [List.length_map] at h1 ⊢
      have e0 : (Str.ofString "").length = 0 := by decide +kernel
      rw [e0]; omega
    · refine neS (str_of_list ?_) (wpAny_truthy_bool ?_)
      · rw [hx, join_empty]; exact (meant_join hlt).symm
      · exact wpAny_execs_nil ⟨rfl, rfl, F₂, fun b o _ _ e => kp₂ _ _ e⟩
set_option maxHeartbeats 1000000 in
theorem l_start {b : List Bool} {x : Str} {t : Tok} (F : FX h₀ h₀ L s.heap m) (mp : m "prepared" = some (.str x t)) (hx : x.cps.toList = b.map sgn2) (hb : b.length ≤ 1000) (hk : 1 ≤ s.toks) :
    wpAny (model P0 w) A (exec (lawSt 4) (lawE L)) (fun fl s₂ => fl = .next ∧ ∃ t, Done h₀ L L s (upd m "start" (.str (enc b) t)) s₂) (fun _ _ => False) s := by
  have hxl : x.length = b.length := by show x.cps.size = _; rw [← Array.length_toList, hx, List.length_map]
  refine wpAny_Assign_Name ?q1 (hs := ?q2)
  case q2 => kernel_rfl
  refine MethodCall_ (toksUp (MethodCall_ (ld F.F mp (GM.replace (callWith_method1 (args_cons (wpAny_Constant_str (args_cons (wpAny_Constant_str (args_nil ?_))))))))))
  have e1 : (Str.ofString ".").length = 1 := by decide +kernel
  have e2 : (Str.ofString "\n").length = 1 := by decide +kernel
  refine SC.replace (y := Str.ofString "s") (z := Str.ofString ".") (Nat.ne_of_gt hk) (Nat.ne_of_gt (Nat.succ_pos _)) (Nat.ne_of_lt (Nat.lt_succ_self _)) (by decide +kernel) (by rw [e1, hxl]; omega) fun t₁ k₁ => ?_
  intro htk
  have htk' : 1 ≤ k₁ := Nat.le_trans hk htk
  have hyl : (Txt.replace x (Str.ofString "s") (Str.ofString ".")).length = b.length := by
    show (Txt.replace x _ _).cps.size = _
    rw [← Array.length_toList, replace_subR _ _ _ (by decide +kernel), show (Str.ofString "s").cps.toList = [115] by decide +kernel, show (Str.ofString ".").cps.toList = [46] by decide +kernel, subR_sign _ _ _ _ (by rw [hx, List.length_map, hxl]; omega), hx, List.length_map, List.length_map]
  refine GM.replace (callWith_method1 (args_cons (wpAny_Constant_str (args_cons (wpAny_Constant_str (args_nil ?_))))))
  refine SC.replace (y := Str.ofString "t") (z := Str.ofString "\n") (Nat.ne_of_gt htk') (Nat.ne_of_gt (Nat.succ_pos _)) (Nat.ne_of_lt (Nat.lt_succ_self _)) (by decide +kernel) (by rw [e2, hyl]; omega) fun t₂ k₂ => ?_
  rw [start_replace hx]
  refine stX F.rebase fun h₃ F₃ => ?_
  exact ⟨rfl, _, rfl, F₃.base, fun b o h1 _ e => F₃.X _ _ h1 e⟩
def roomsOf (ds : List Nat) : List Nat := (ds.drop 7).map fun x => x % 4 + 1
set_option maxHeartbeats 1000000 in
theorem l_rooms {l : Addr} {vs : List Value} {ds : List Nat} (hh : A.handled = none) (F : FX h₀ h₀ L s.heap m) (ms : m "draws" = some (.ref l)) (hl : s.heap.IsList l vs.toArray) (hi : Ints vs ds) (hn : ds.length ≤ 100) :
    wpAny (model P0 w) A (exec (lawSt 5) (lawE L)) (fun fl s₂ => fl = .next ∧ ∃ a us, Done h₀ L L s (upd m "rooms" (.ref a)) s₂ ∧ s₂.heap.IsList a us.toArray ∧ Ints us (roomsOf ds)) (fun _ _ => False) s := by
  have hlen := hi.length
  refine lcA (ds.drop 7) (fun _ => true) (fun _ x v => ∃ t, v = Value.int ((x % 4 + 1 : Nat) : Int) t) (fun x m' => ∃ t, m' "x" = some (.int (x : Nat) t)) hh (from_ (n := 7) F ms hl (by omega) rfl fun a₁ h₁ k₁ l₁ kp₁ => ⟨a₁, _, rfl, l₁, ?ok, F.keeps kp₁, ?rest⟩) (hsw := ?sw)
  case sw => kernel_rfl
  case ok =>
    refine ⟨by simp [hlen], by simp; omega, fun _ _ _ _ q k => q, fun C I ax i v a s₂ m₂ j Q E' h1 h2 hn _ kp' hQ => ?_, fun C a s₂ m₂ E' _ _ _ _ _ => wpAny_tests_nil ⟨rfl, _, _, rfl, fun _ _ e => e⟩, fun C a s₂ m₂ E' hal _ hn hm kp' _ => ?_⟩
    · obtain ⟨t, ht⟩ := (show Ints (vs.drop 7) (ds.drop 7) from paired_drop 7 hi).at h2
      rw [List.getElem?_toArray, ht] at h1
      cases h1
      exact asgN hn fun h' m' k q1 q2 q3 => hQ h' m' k q1 ⟨t, q2⟩ q3
    · obtain ⟨t, hm⟩ := hm
      exact wpAny_BinOp (wpAny_BinOp (ldC hn hm (wpAny_Constant_int (modN (a := a) (b := 4) rfl rfl (by decide) (wpAny_Constant_int (wpAny_add_int ⟨⟨_, rfl⟩, _, _, rfl, fun _ _ e => e⟩))))))
  case rest =>
    intro D h₂ k₂ ys hD hDL lD hP F₂ kp₂
    rw [List.filter_eq_self.mpr (by simp)] at hP
    exact ⟨rfl, D, ys.toList, ⟨rfl, F₂, fun b o h1 _ e => kp₂ b o h1 (kp₁ _ _ e)⟩, by simpa using lD, paired_map hP⟩
theorem l_grown {b : List Bool} {t : Tok} (hK : (KF w.params).In h₀) (hd : A.depth < 900) (hh : A.handled = none) (F : FX h₀ h₀ L s.heap m) (mp : m "start" = some (.str (enc b) t)) (hb : b.length ≤ 200) :
    wpAny (model P0 w) A (exec (lawSt 6) (lawE L)) (fun fl s₂ => fl = .next ∧ ∃ a us, Done h₀ L L s (upd m "grown" (.ref a)) s₂ ∧ s₂.heap.IsList a us.toArray ∧ Ints us (grown b)) (fun _ _ => False) s := by
  have hK₁ := hK.keeps F.F.keep
  refine wpAny_Assign_Name ?q1 (hs := ?q2)
  case q2 => kernel_rfl
  refine Call_ (gl hK₁ (v := .ref 138) (by kernel_rfl) (callWith_def (o := o138S20 w.params) rfl (args_cons (ld F.F mp (args_nil ⟨hK₁ _ _ rfl, ?_⟩)))))
  refine callC (c_grown (by exact hK₁) hd hh b hb t) ?_
  rintro v h' tk kp ⟨a, us, rfl, _, la, iu⟩
  have F₁ := F.keeps kp
  refine stX F₁.rebase fun h₃ F₃ => ?_
  exact ⟨rfl, a, us, ⟨rfl, F₃.base, fun b o h1 _ e => F₃.X _ _ h1 (kp _ _ e)⟩, (la.isList).at fun o e => F₃.X _ _ (list_ne_ns la.isList F₁.F.ns) e, iu⟩
theorem l_ends (F : FX h₀ h₀ L s.heap m) :
    wpAny (model P0 w) A (exec (lawSt 7) (lawE L)) (fun fl s₂ => fl = .next ∧ ∃ a, Done h₀ L L s (upd m "ends" (.ref a)) s₂ ∧ s₂.heap.PlainList a ([] : List Value).toArray ∧ s.heap.get? a = none) (fun _ _ => False) s := by
  refine wpAny_Assign_Name ?q1 (hs := ?q2)
  case q2 => kernel_rfl
  refine List_ (args_nil (wpAny_newList (stX (F.push _).rebase fun h₃ F₃ => ?_)))
  refine ⟨rfl, _, ⟨rfl, F₃.base, fun b o h1 _ e => F₃.X _ _ h1 (Heap.get?_push_of_some _ e)⟩, ⟨0, F₃.X _ _ (Nat.ne_of_gt F.F.ns.lt) (Heap.get?_push_size _ rfl)⟩, fresh_none⟩
end
end Mine
end
noncomputable section
open PySem PySem.W PyProof.Rows PySem.Calls
set_option maxRecDepth 100000
namespace Mine
open Bbs
section
variable {w : World} {A : Around} {s : Shared} {h₀ : Heap} {L : Addr} {m : Str → Option Value}
theorem neI {E : Value → Shared → Prop} {Q : Value → Shared → Prop} {a b : Int} {t u : Tok} (he : a = b) (h : Q (.bool false) s) : wpAny (model P0 w) A (compareOp .NotEq (.int a t) (.int b u)) Q E s := by
  subst he
  refine PyProof.Rows.ne_int ?_
  rw [bne_self_eq_false]; exact h
theorem mem_le_sum_take (ns : List Nat) (j : Nat) : (ns.take j).sum ≤ ns.sum := sum_take_le ns j
/-- a carrier's turn: `x, y = _law_pass(x, room)` and the test behind it -/
theorem turn_ {x y : Str} {p1 p2 p3 p4 p5 p6 p7 p8 p9 p10 p11 p12 p13 p14 p15 p16 p17 : Pos} {k1 : Nat} {B : List Stmt} {b : List Bool} {r : Nat} {t u : Tok} {aG : Addr} {vG : List Value} {gs : List Nat}
    (hK : (KF w.params).In h₀) (hd : A.depth < 900) (hh : A.handled = none) (F : FX h₀ h₀ L s.heap m) (mx : m x = some (.str (enc b) t)) (mr : m "room" = some (.int (r : Nat) u)) (mg : m "grown" = some (.ref aG))
    (lG : s.heap.IsList aG vG.toArray) (iG : Ints vG gs) (hb : b.length ≤ 1000) (hr : r ≤ 1000) (hg : gs.length ≤ 1000) (hgs : gs.sum ≤ 1000000) (hsum : taken r b = (gs.take r).sum)
    (n1 : x ≠ y) (n2 : "grown" ≠ x) (n3 : "grown" ≠ y) (n4 : "room" ≠ x) (n5 : "room" ≠ y)
    (kx : (lawE L).kindOf x = some .local) (ky : (lawE L).kindOf y = some .local) (dx : (x == ("__debug__" : Str)) = false) (dy : (y == ("__debug__" : Str)) = false)
    (hs : swapsWithSole [.Tuple [.Name x p1, .Name y p2] k1 p3] (.Call (.Name "_law_pass" p4) [.Name x p5, .Name "room" p6] [] p7) p8.line (lawE L) = pure false)
    (hw : swappedStores [.Tuple [.Name x p1, .Name y p2] k1 p3] (.Call (.Name "_law_pass" p4) [.Name x p5, .Name "room" p6] [] p7) (lawE L) = pure none) :
    wpAny (model P0 w) A (execs [.Assign [.Tuple [.Name x p1, .Name y p2] k1 p3] (.Call (.Name "_law_pass" p4) [.Name x p5, .Name "room" p6] [] p7) p8,
      .If (.Compare (.Name y p9) [.NotEq] [.Call (.Name "sum" p10) [.Subscript (.Name "grown" p11) (.Slice none (some (.Name "room" p12)) none p13) p14] [] p15] p16) B [] p17] (lawE L))
      (fun fl s₂ => fl = .next ∧ ∃ m₂, Done h₀ L L s m₂ s₂ ∧ (∃ t, m₂ x = some (.str (enc (pass r b)) t)) ∧ ∀ z, z ≠ x → z ≠ y → m₂ z = m z) (fun _ _ => False) s := by
  have hK₁ := hK.keeps F.F.keep
  refine wpAny_execs_cons (Assign_Tuple (Call_ (gl hK₁ (v := .ref 145) (by kernel_rfl) (callWith_def (o := o145S20 w.params) rfl (args_cons (ld (hl := kx) (hd := dx) F.F mx (args_cons (ld F.F mr (args_nil ⟨hK₁ _ _ rfl, ?_⟩)))))))) hs hw)
  refine callC (c_pass (by exact hK₁) hd hh b r hb hr t u) ?_
  rintro v h' tk kp ⟨a, t1, t2, rfl, _, g⟩
  have F₁ := F.keeps kp
  refine assign_Tuple_tuple hh ⟨_, g, rfl, _, rfl⟩ rfl rfl fun h₅ he => ?_
  have he' : ∀ b o, h'.get? b = some o → h₅.get? b = some o := fun b o e => he b o (Nat.ne_of_lt (Heap.lt_size e)) e
  have F₂ := F₁.keeps he'
  refine assignInOrder_cons (wpAny_assign_Name (stX (hl := kx) F₂.rebase fun h₆ F₆ => ?_))
  refine assignInOrder_cons (wpAny_assign_Name (stX (hl := ky) F₆ fun h₇ F₇ => ?_))
  refine assignInOrder_nil ?_
  have lG₇ : h₇.IsList aG vG.toArray := lG.at fun o e => F₇.X _ _ (list_ne_ns lG F.F.ns) (he' _ _ (kp _ _ e))
  have kp₇ : ∀ b o, b ≠ L → s.heap.get? b = some o → h₇.get? b = some o := fun b o h1 e => F₇.X _ _ h1 (he' _ _ (kp _ _ e))
  have F₇ := F₇.base
  have hK₇ := hK.keeps F₇.F.keep
  have hlenG := iG.length
  refine wpAny_execs_cons (wpAny_If (wpAny_isTrue_Compare1 (ld (hl := ky) (hd := dy) F₇.F upd_eq (Call_ (gb hK₇ (v := .builtin "sum") (by kernel_rfl) (by kernel_rfl) (callWith_builtin1 (args_cons ?_)))))))
  refine sliceG (ld F₇.F (upd_ne (upd_ne mg n2) n3) (wpAny_pure ?_))
  refine ld F₇.F (upd_ne (upd_ne mr n4) n5) (wpAny_pure ⟨aG, _, none, some (r : Int), none, rfl, lG₇, by rw [List.size_toArray]; omega, .none, .int _ _, .none, by simp, ?_⟩)
  intro a₈ h₈ _ l₈ kp₈
  rw [pick_to] at l₈
  have F₈ := F₇.keeps kp₈
  refine args_nil (sumInts hh l₈ (paired_take r iG) (Nat.le_trans (sum_take_le gs r) hgs) fun h₉ k₉ t₉ kp₉ => ?_)
  refine neI (by rw [hsum]) (wpAny_truthy_bool ?_)
  refine wpAny_execs_nil (wpAny_execs_nil ?_)
  exact ⟨rfl, _, ⟨rfl, F₈.keeps kp₉, fun b o h1 _ e => kp₉ _ _ (kp₈ _ _ (kp₇ _ _ h1 e))⟩, ⟨t1, upd_ne upd_eq n1⟩, fun z hz1 hz2 => upd_ne (upd_ne rfl hz1) hz2⟩
end
end Mine
end
noncomputable section
open PySem PySem.W PyProof.Rows PySem.Calls
set_option maxRecDepth 100000
namespace Mine
open Bbs
def passAll (rs : List Nat) (b : List Bool) : List Bool := rs.foldl (fun b r => pass r b) b
theorem passAll_snoc (rs : List Nat) (r : Nat) (b : List Bool) : passAll (rs ++ [r]) b = pass r (passAll rs b) := by simp [passAll]
theorem passAll_grown : ∀ (rs : List Nat) (b : List Bool), grown (passAll rs b) = grown b
  | [], _ => rfl
  | r :: rs, b => by show grown (passAll rs (pass r b)) = _; rw [passAll_grown rs, grown_pass]
theorem passAll_length : ∀ (rs : List Nat) (b : List Bool), (passAll rs b).length = b.length + rs.sum
  | [], _ => rfl
  | r :: rs, b => by show (passAll rs (pass r b)).length = _; rw [passAll_length rs, pass_length, List.sum_cons]; omega
theorem passAll_taken (a : Nat) : ∀ (rs : List Nat) (b : List Bool), taken a (passAll rs b) = taken a b
  | [], _ => rfl
  | r :: rs, b => by show taken a (passAll rs (pass r b)) = _; rw [passAll_taken a rs, taken_pass]
theorem passAll_sum (rs : List Nat) (b : List Bool) (r : Nat) : taken r (passAll rs b) = ((grown b).take r).sum := by rw [← grown_sum, passAll_grown]
theorem tk_le (r : Nat) : ∀ (l : List Bool) (x : Nat), tk r x l ≤ l.length
  | [], _ => by simp [tk]
  | c :: t, x => by have := tk_le r t (stp r x c).1; simp only [tk, List.length_cons]; split <;> omega
theorem grown_length (b : List Bool) : (grown b).length ≤ b.length := Nat.le_trans (nums_length _ _) (balls_le b)
theorem grown_total (b : List Bool) : (grown b).sum ≤ 2 * b.length := by
  have h := grown_sum b (grown b).length
  rw [List.take_length] at h
  rw [h]
  have := tk_le (grown b).length (b ++ zs (grown b).length) 0
  have h2 := grown_length b
  unfold taken
  simp only [List.length_append, zs, List.length_replicate] at this ⊢
  omega
theorem ends_same {a b c : Nat} (s : List Bool) : passAll [a, b, c].reverse s = passAll [a, b, c] s  := by
  show pass a (pass b (pass c s)) = pass c (pass b (pass a s))
  exact (three a b c s).symm
theorem taken_rev {a b c r : Nat} (s : List Bool) (h : r ∈ [a, b, c]) : taken r (passAll [a, b, c] s).reverse = taken r s := by
  show taken r (pass c (pass b (pass a s))).reverse = _
  simp only [List.mem_cons, List.not_mem_nil, or_false] at h
  rcases h with rfl | rfl | rfl
  · rw [three, taken_back, taken_pass, taken_pass]
  · rw [pass_comm c r, taken_back, taken_pass, taken_pass]
  · rw [taken_back, taken_pass, taken_pass]
theorem back_sum {a b c r : Nat} (rs : List Nat) (s : List Bool) (h : r ∈ [a, b, c]) : taken r (passAll rs (passAll [a, b, c] s).reverse) = ((grown s).take r).sum := by
  rw [passAll_taken, taken_rev s h, grown_sum]
theorem back_end (a b c : Nat) (s : List Bool) : (passAll [a, b, c] (passAll [a, b, c] s).reverse).reverse = zs [a, b, c].sum ++ s ++ zs [a, b, c].sum := by
  have e1 : passAll [a, b, c] s = pass a (pass b (pass c s)) := three a b c s
  rw [e1]
  show (pass c (pass b (pass a (pass a (pass b (pass c s))).reverse))).reverse = _
  have h1 := back_one a 0 0 (pass b (pass c s))
  have h2 := back_one b (0 + a) (a + 0) (pass c s)
  have h3 := back_one c (0 + a + b) (b + (a + 0)) s
  simp only [zs, List.replicate_zero, List.nil_append, List.append_nil] at h1
  rw [h1]
  have h2' := h2
  have h3' := h3
  unfold zs at h2' h3'
  rw [h2', h3']
  simp only [List.reverse_append, List.reverse_reverse, List.reverse_replicate, List.sum_cons, List.sum_nil, zs]
  rw [show 0 + a + b + c = a + (b + (c + 0)) by omega, show c + (b + (a + 0)) = a + (b + (c + 0)) by omega, List.append_assoc]
theorem rooms_three {ds : List Nat} (h : ds.length = 10) : ∃ a b c, roomsOf ds = [a, b, c] ∧ a ≤ 4 ∧ b ≤ 4 ∧ c ≤ 4 := by
  unfold roomsOf
  have h1 : (ds.drop 7).length = 3 := by rw [List.length_drop, h]
  match hd : ds.drop 7, h1 with
  | [x, y, z], _ => exact ⟨x % 4 + 1, y % 4 + 1, z % 4 + 1, rfl, by omega, by omega, by omega⟩
theorem enc_rev (l : List Bool) : (⟨(enc l).cps.toList.reverse.toArray⟩ : Str) = enc l.reverse := by
  rw [enc_toList, ← List.map_reverse]; rfl
end Mine
end
noncomputable section
open PySem PySem.W PyProof.Rows PySem.Calls
set_option maxRecDepth 100000
namespace Mine
open Bbs
def body8 : List Stmt := match lawSt 8 with | .For _ _ b _ _ => b | _ => []
def inner8 : List Stmt := match (body8[1]? : Option Stmt) with | some (.For _ _ b _ _) => b | _ => []
/-- the texts that stand in a list -/
def Texts (vs : List Value) (bs : List (List Bool)) : Prop := Paired (fun (b : List Bool) v => ∃ t, v = Value.str (enc b) t) bs vs
structure Kept (b₀ : List Bool) (aG aE aR : Addr) (m : Str → Option Value) : Prop where
  start : ∃ t, m "start" = some (.str (enc b₀) t)
  grown : m "grown" = some (.ref aG)
  ends : m "ends" = some (.ref aE)
  rooms : m "rooms" = some (.ref aR)
theorem Kept.of {b₀ : List Bool} {aG aE aR : Addr} {m m' : Str → Option Value} (k : Kept b₀ aG aE aR m) (h : ∀ z : Str, z = "start" ∨ z = "grown" ∨ z = "ends" ∨ z = "rooms" → m' z = m z) : Kept b₀ aG aE aR m' :=
  ⟨by rw [h _ (.inl rfl)]; exact k.start, by rw [h _ (.inr (.inl rfl))]; exact k.grown, by rw [h _ (.inr (.inr (.inl rfl)))]; exact k.ends, by rw [h _ (.inr (.inr (.inr rfl)))]; exact k.rooms⟩
theorem four_ne {z x : Str} (h : z = "start" ∨ z = "grown" ∨ z = "ends" ∨ z = "rooms") (h1 : ("start" : Str) ≠ x) (h2 : ("grown" : Str) ≠ x) (h3 : ("ends" : Str) ≠ x) (h4 : ("rooms" : Str) ≠ x) : z ≠ x := by
  rcases h with rfl | rfl | rfl | rfl <;> assumption
theorem ints_at' : ∀ {vs : List Value} {ns : List Nat} {i : Nat} {v : Value}, Ints vs ns → vs[i]? = some v → ∃ n t, ns[i]? = some n ∧ v = .int (n : Nat) t
  | _, _, i, v, .nil, h => by simp at h
  | _, _, 0, v, .cons ⟨t, e⟩ r, h => by simp at h; exact ⟨_, t, rfl, by rw [← h, e]⟩
  | _, _, i + 1, v, .cons _ r, h => by simpa using ints_at' r (by simpa using h)
section
variable {w : World} {A : Around} {s : Shared} {h₀ : Heap} {L : Addr} {m : Str → Option Value}
/-- one order: the carriers go, the end is noted -/
theorem order_ {b₀ : List Bool} {aG aE aR aO : Addr} {vG vE vO : List Value} {os : List Nat} {bs : List (List Bool)} (hK : (KF w.params).In h₀) (hd : A.depth < 900) (hh : A.handled = none) (F : FX h₀ h₀ L s.heap m) (kpt : Kept b₀ aG aE aR m)
    (mo : m "order" = some (.ref aO)) (lO : s.heap.IsList aO vO.toArray) (iO : Ints vO os) (lG : s.heap.IsList aG vG.toArray) (iG : Ints vG (grown b₀)) (lE : s.heap.PlainList aE vE.toArray) (tE : Texts vE bs) (hE0 : h₀.get? aE = none) (hGE : aG ≠ aE)
    (hb : b₀.length ≤ 100) (hos : os.sum ≤ 100) (hr : ∀ r ∈ os, r ≤ 100) (hbs : bs.length ≤ 10) :
    wpAny (model P0 w) A (execs body8 (lawE L)) (fun fl s₂ => fl = .next ∧ ∃ m₂ vE₂, s₂ = { s with heap := s₂.heap, toks := s₂.toks } ∧ FX h₀ h₀ L s₂.heap m₂ ∧ (∀ b o, b ≠ L → b ≠ aE → s.heap.get? b = some o → s₂.heap.get? b = some o) ∧ Kept b₀ aG aE aR m₂ ∧
      s₂.heap.PlainList aE vE₂.toArray ∧ Texts vE₂ (bs ++ [passAll os b₀])) (fun _ _ => False) s := by
  obtain ⟨⟨ts, mst⟩, mgr, men, mro⟩ := id kpt
  refine wpAny_execs_cons ?_
  refine wpAny_Assign_Name ?q1 (hs := ?q2)
  case q2 => kernel_rfl
  refine ld F.F mst (stX F.rebase fun h₁ F₁ => ?_)
  have lO₁ := lO.at fun o e => F₁.X _ _ (list_ne_ns lO F.F.ns) e
  have lG₁ := lG.at fun o e => F₁.X _ _ (list_ne_ns lG F.F.ns) e
  have lE₁ := lE.at fun o e => F₁.X _ _ (list_ne_ns lE.isList F.F.ns) e
  have kp₁ : ∀ b o, b ≠ L → s.heap.get? b = some o → h₁.get? b = some o := fun b o h1 e => F₁.X _ _ h1 e
  have F₁ := F₁.base
  have hlenO := iO.length
  refine wpAny_execs_cons (wpAny_For (ld F₁.F (upd_ne mo) ?_))
  refine iter_list (G := L) hh lO₁ (list_ne_ns lO₁ F₁.F.ns) F₁.F.ns.lt F₁
    (fun i h' m' => (∃ t, m' "boxes" = some (.str (enc (passAll (os.take i) b₀)) t)) ∧ Kept b₀ aG aE aR m')
    (fun i h' h'' m' hJ k => hJ)
    ⟨⟨_, upd_eq⟩, kpt.of fun z hz => upd_ne rfl (four_ne hz (by decide) (by decide) (by decide) (by decide))⟩ (fun i x h₂ m₂ k₂ hx F₂ hJ kp₂ => ?_) (fun h₂ k₂ m₂ F₂ hJ kp₂ => ?_)
  · obtain ⟨⟨tb, mb⟩, kpt₂⟩ := hJ
    rw [List.getElem?_toArray] at hx
    obtain ⟨r, u, er, rfl⟩ := ints_at' iO hx
    have lG₂ := lG₁.at fun o e => kp₂ _ _ (list_ne_ns lG₁ F₁.F.ns) (list_ne_ns lG₁ F₁.F.ns) e
    have htk := List.take_add_one (l := os) (i := i)
    rw [er] at htk
    have hrr : r ≤ 100 := hr r (List.mem_of_getElem? er)
    have hsumt := sum_take_le os i
    refine wpAny_mono (turn_ (x := "boxes") (y := "taken") (b := passAll (os.take i) b₀) (r := r) (gs := grown b₀) hK hd hh F₂ (upd_ne mb) upd_eq (upd_ne kpt₂.grown) lG₂ iG (by rw [passAll_length]; omega) (by omega) (Nat.le_trans (grown_length _) (by omega)) (Nat.le_trans (grown_total _) (by omega)) (passAll_sum _ _ _)
      (by decide) (by decide) (by decide) (by decide) (by decide) ?k1 ?k2 (by decide) (by decide) ?k3 ?k4) (fun fl s₃ h₃ => ?_) fun _ _ (e : False) => e.elim
    case k1 => kernel_rfl
    case k2 => kernel_rfl
    case k3 => kernel_rfl
    case k4 => kernel_rfl
    obtain ⟨rfl, m₃, ⟨e3, F₃, kp₃⟩, mx₃, mz₃⟩ := h₃
    refine ⟨rfl, s₃.heap, s₃.toks, m₃, e3, F₃, kp₃, ?_, kpt₂.of fun z hz => (mz₃ z (four_ne hz (by decide) (by decide) (by decide) (by decide)) (four_ne hz (by decide) (by decide) (by decide) (by decide))).trans (upd_ne rfl (four_ne hz (by decide) (by decide) (by decide) (by decide)))⟩
    rw [htk, Option.toList_some, passAll_snoc]
    exact mx₃
  · obtain ⟨⟨tb, mb⟩, kpt₂⟩ := hJ
    rw [List.size_toArray, ← hlenO, List.take_length] at mb
    have lE₂ := lE₁.at fun o e => kp₂ _ _ (list_ne_ns lE₁.isList F₁.F.ns) (list_ne_ns lE₁.isList F₁.F.ns) e
    have hlenE := tE.length
    obtain ⟨nE, oE⟩ := id lE₂
    refine wpAny_execs_cons (wpAny_Expr (MethodCall_ (ld F₂.F kpt₂.ends (getMethod_list_append oE rfl rfl (callWith_method1 (args_cons (ld F₂.F mb (args_nil ?_))))))))
    refine wpAny_list_append_plain (hsz := by rw [List.size_toArray, sizeLine_val]; omega) lE₂ fun h₃ lE₃ hs₃ => ?_
    have F₃ := F₂.change hs₃ (list_ne_ns lE₂.isList F₂.F.ns) hE0
    rw [List.push_toArray] at lE₃
    exact wpAny_execs_nil ⟨rfl, m₂, _, rfl, F₃, fun b o h1 h2 e => hs₃.extBut b o h2 (kp₂ _ _ h1 h1 (kp₁ _ _ h1 e)), kpt₂, lE₃, Paired.snoc tE ⟨_, rfl⟩⟩
end
end Mine
end
noncomputable section
open PySem PySem.W PyProof.Rows PySem.Calls
set_option maxRecDepth 100000
namespace Mine
open Bbs
section
variable {w : World} {A : Around} {s : Shared} {h₀ : Heap} {L : Addr} {m : Str → Option Value}
theorem pick_rev (vs : List Value) : slicePick vs.toArray none none (some (-1)) = vs.reverse.toArray := by rw [krv_pick]
theorem paired_rev {α β : Type} {R : α → β → Prop} : ∀ {l : List α} {k : List β}, Paired R l k → Paired R l.reverse k.reverse
  | _, _, .nil => .nil
  | _, _, .cons a r => by rw [List.reverse_cons, List.reverse_cons]; exact Paired.snoc (paired_rev r) a
theorem l_loop {b₀ : List Bool} {aG aE aR : Addr} {vG vR : List Value} {rs : List Nat} (hK : (KF w.params).In h₀) (hd : A.depth < 900) (hh : A.handled = none) (F : FX h₀ h₀ L s.heap m) (kpt : Kept b₀ aG aE aR m)
    (lR : s.heap.IsList aR vR.toArray) (iR : Ints vR rs) (lG : s.heap.IsList aG vG.toArray) (iG : Ints vG (grown b₀)) (lE : s.heap.PlainList aE ([] : List Value).toArray) (hE0 : h₀.get? aE = none) (hGE : aG ≠ aE) (hRE : aR ≠ aE)
    (hb : b₀.length ≤ 100) (hrl : rs.length ≤ 1000) (hsum : rs.sum ≤ 100) (hr : ∀ r ∈ rs, r ≤ 100) :
    wpAny (model P0 w) A (exec (lawSt 8) (lawE L)) (fun fl s₂ => fl = .next ∧ ∃ m₂ vE, s₂ = { s with heap := s₂.heap, toks := s₂.toks } ∧ FX h₀ h₀ L s₂.heap m₂ ∧ (∀ b o, b ≠ L → b ≠ aE → s.heap.get? b = some o → s₂.heap.get? b = some o) ∧ Kept b₀ aG aE aR m₂ ∧
      s₂.heap.PlainList aE vE.toArray ∧ Texts vE [passAll rs b₀, passAll rs.reverse b₀]) (fun _ _ => False) s := by
  have hlenR := iR.length
  refine wpAny_For (List_ (args_cons (ld F.F kpt.rooms (args_cons ?_))))
  refine sliceG (ld F.F kpt.rooms (wpAny_pure (wpAny_pure (wpAny_UnaryOp (wpAny_Constant_int (neg_int ?_))))))
  refine ⟨aR, _, none, none, some (-1), rfl, lR, by rw [List.size_toArray]; omega, .none, .none, .int _ _, by decide, fun a₁ h₁ n₁ l₁ kp₁ => ?_⟩
  rw [pick_rev] at l₁
  refine args_nil (newL (by simp) fun a₂ h₂ n₂ l₂ kp₂ => ?_)
  have F₂ := (F.keeps kp₁).keeps kp₂
  have l₁ := l₁.at fun o e => kp₂ _ _ e
  have lR₂ := (lR.at fun o e => kp₁ _ _ e).at fun o e => kp₂ _ _ e
  have lG₂ := (lG.at fun o e => kp₁ _ _ e).at fun o e => kp₂ _ _ e
  have lE₂ := (lE.at fun o e => kp₁ _ _ e).at fun o e => kp₂ _ _ e
  have old : ∀ b o, s.heap.get? b = some o → h₂.get? b = some o := fun b o e => kp₂ _ _ (kp₁ _ _ e)
  obtain ⟨nE, oE⟩ := id lE
  have h1E : a₁ ≠ aE := by rintro rfl; rw [n₁] at oE; cases oE
  have h2E : a₂ ≠ aE := by rintro rfl; rw [kp₁ _ _ oE] at n₂; cases n₂
  refine iter_list (G := aE) hh l₂ h2E (Heap.lt_size (old _ _ oE)) F₂
    (fun i h' m' => Kept b₀ aG aE aR m' ∧ ∃ vE, h'.PlainList aE vE.toArray ∧ Texts vE ([passAll rs b₀, passAll rs.reverse b₀].take i))
    (fun i h' h'' m' hJ k => ⟨hJ.1, hJ.2.imp fun vE q => ⟨q.1.at fun o e => k _ _ (list_ne_ns lE₂.isList F₂.F.ns) (Heap.lt_size (old _ _ oE)) e, q.2⟩⟩)
    ⟨kpt, [], lE₂, .nil⟩ (fun i x h₃ m₃ k₃ hx F₃ hJ kp₃ => ?_) (fun h₃ k₃ m₃ F₃ hJ kp₃ => ?_)
  · obtain ⟨kpt₃, vE, lE₃, tE₃⟩ := hJ
    rw [List.getElem?_toArray] at hx
    have lG₃ := lG₂.at fun o e => kp₃ _ _ (list_ne_ns lG₂ F₂.F.ns) hGE e
    have kpt₃' : Kept b₀ aG aE aR (upd m₃ "order" x) := kpt₃.of fun z hz => upd_ne rfl (four_ne hz (by decide) (by decide) (by decide) (by decide))
    have hx' : ∃ aO vO os, x = .ref aO ∧ h₃.IsList aO vO.toArray ∧ Ints vO os ∧ os.sum ≤ 100 ∧ (∀ r ∈ os, r ≤ 100) ∧ [passAll rs b₀, passAll rs.reverse b₀].take (i + 1) = [passAll rs b₀, passAll rs.reverse b₀].take i ++ [passAll os b₀] ∧ i ≤ 1 := by
      match i, hx with
      | 0, hx => cases hx; exact ⟨aR, vR, rs, rfl, lR₂.at fun o e => kp₃ _ _ (list_ne_ns lR₂ F₂.F.ns) hRE e, iR, hsum, hr, rfl, by omega⟩
      | 1, hx => cases hx; exact ⟨a₁, _, rs.reverse, rfl, l₁.at fun o e => kp₃ _ _ (list_ne_ns l₁ F₂.F.ns) h1E e, paired_rev iR, by rw [List.sum_reverse]; exact hsum, fun r q => hr r (List.mem_reverse.mp q), rfl, by omega⟩
      | n + 2, hx => simp at hx
    obtain ⟨aO, vO, os, rfl, lO, iO, hos, hro, htake, hi1⟩ := hx'
    refine wpAny_mono (order_ hK hd hh F₃ kpt₃' upd_eq lO iO lG₃ iG lE₃ tE₃ hE0 hGE hb hos hro (by simp; omega)) (fun fl s₄ h₄ => ?_) fun _ _ (e : False) => e.elim
    obtain ⟨rfl, m₄, vE₄, e4, F₄, kp₄, kpt₄, lE₄, tE₄⟩ := h₄
    exact ⟨rfl, s₄.heap, s₄.toks, m₄, e4, F₄, kp₄, kpt₄, vE₄, lE₄, by rw [htake]; exact tE₄⟩
  · obtain ⟨kpt₃, vE, lE₃, tE₃⟩ := hJ
    exact ⟨rfl, m₃, vE, rfl, F₃, fun b o h1 h2 e => kp₃ _ _ h1 h2 (old _ _ e), kpt₃, lE₃, tE₃⟩
end
end Mine
end
noncomputable section
open PySem PySem.W PyProof.Rows PySem.Calls
set_option maxRecDepth 100000
namespace Mine
open Bbs
theorem ints_are : ∀ {vs : List Value} {ns : List Nat}, Ints vs ns → IntsAre vs (ns.map fun n : Nat => (n : Int))
  | _, _, .nil => .nil
  | _, _, .cons ⟨t, e⟩ r => by rw [e]; exact .cons _ _ (ints_are r)
theorem texts_at : ∀ {vs : List Value} {bs : List (List Bool)} {i : Nat} {b : List Bool}, Texts vs bs → bs[i]? = some b → ∃ t, vs[i]? = some (.str (enc b) t)
  | _, _, i, b, .nil, h => by simp at h
  | _, _, 0, b, .cons ⟨t, e⟩ r, h => by simp at h; exact ⟨t, by simp [e, h]⟩
  | _, _, i + 1, b, .cons _ r, h => by simpa using texts_at r (by simpa using h)
section
variable {w : World} {A : Around} {s : Shared} {h₀ : Heap} {L : Addr} {m : Str → Option Value}
theorem neL {E : Value → Shared → Prop} {Q : Value → Shared → Prop} {a b : Addr} {vs us : List Value} {ns ms : List Nat} (hl : s.heap.IsList a vs.toArray) (hi : Ints vs ns) (hl' : s.heap.IsList b us.toArray) (hi' : Ints us ms) (he : ns = ms) (hu : A.units + 64 < cLine)
    (h : Q (.bool false) s) : wpAny (model P0 w) A (compareOp .NotEq (.ref a) (.ref b)) Q E s := by
  subst he
  refine ne_intsK hl (ints_are hi) hl' (ints_are hi') hu ?_
  rw [decide_eq_true rfl]; exact h
theorem l_test {e : List Bool} {aG aE : Addr} {vG vE : List Value} (hK : (KF w.params).In h₀) (hd : A.depth < 900) (hh : A.handled = none) (hu : A.units + 64 < cLine) (F : FX h₀ h₀ L s.heap m) (mg : m "grown" = some (.ref aG)) (me : m "ends" = some (.ref aE))
    (lG : s.heap.IsList aG vG.toArray) (iG : Ints vG (grown e)) (lE : s.heap.PlainList aE vE.toArray) (tE : Texts vE [e, e]) (hb : e.length ≤ 200) :
    wpAny (model P0 w) A (exec (lawSt 9) (lawE L)) (fun fl s₂ => fl = .next ∧ Done h₀ L L s m s₂) (fun _ _ => False) s := by
  have hK₁ := hK.keeps F.F.keep
  obtain ⟨t0, h0⟩ := texts_at (i := 0) tE rfl
  obtain ⟨t1, h1⟩ := texts_at (i := 1) tE rfl
  refine wpAny_If (wpAny_isTrue_BoolOp (wpAny_allTrue_Or_cons (wpAny_isTrue_Compare1 (Subscript_ (ld F.F me (wpAny_Constant_int ?_))))))
  refine itemG lE.isList (by decide) (by decide) (by rw [List.getElem?_toArray]; exact h0) ?_
  refine Subscript_ (ld F.F me (wpAny_Constant_int ?_))
  refine itemG lE.isList (by decide) (by decide) (by rw [List.getElem?_toArray]; exact h1) ?_
  refine neS rfl (wpAny_truthy_bool ?_)
  simp only [Bool.false_eq_true, if_false]
  refine wpAny_allTrue_Or_cons (wpAny_isTrue_Compare1 (Call_ (gl hK₁ (v := .ref 138) (by kernel_rfl) (callWith_def (o := o138S20 w.params) rfl (args_cons (Subscript_ (ld F.F me (wpAny_Constant_int ?_))))))))
  refine itemG lE.isList (by decide) (by decide) (by rw [List.getElem?_toArray]; exact h0) ?_
  refine args_nil ⟨hK₁ _ _ rfl, ?_⟩
  refine callC (c_grown (by exact hK₁) hd hh e hb t0) ?_
  rintro v h' tk kp ⟨a, us, rfl, _, la, iu⟩
  have F₁ := F.keeps kp
  refine ld F₁.F mg (neL la.isList iu (lG.at fun o e => kp _ _ e) iG rfl hu (wpAny_truthy_bool ?_))
  simp only [Bool.false_eq_true, if_false]
  refine wpAny_allTrue_Or_nil ?_
  simp only [Bool.false_eq_true, if_false]
  exact wpAny_execs_nil ⟨rfl, rfl, F₁, fun b o _ _ e => kp _ _ e⟩
theorem l_back {e : List Bool} {aE : Addr} {vE : List Value} (F : FX h₀ h₀ L s.heap m) (me : m "ends" = some (.ref aE)) (lE : s.heap.PlainList aE vE.toArray) (tE : Texts vE [e, e]) (hb : e.length ≤ 200) :
    wpAny (model P0 w) A (exec (lawSt 10) (lawE L)) (fun fl s₂ => fl = .next ∧ ∃ t, Done h₀ L L s (upd m "back" (.str (enc e.reverse) t)) s₂) (fun _ _ => False) s := by
  obtain ⟨t0, h0⟩ := texts_at (i := 0) tE rfl
  refine wpAny_Assign_Name ?q1 (hs := ?q2)
  case q2 => kernel_rfl
  refine revS (Subscript_ (ld F.F me (wpAny_Constant_int ?_)))
  refine itemG lE.isList (by decide) (by decide) (by rw [List.getElem?_toArray]; exact h0) ?_
  refine wpAny_UnaryOp (wpAny_Constant_int (neg_int ⟨_, _, _, rfl, rfl, by rw [enc_length]; omega, fun h' k t' kp => ?_⟩))
  rw [enc_rev]
  refine stX (F.keeps kp).rebase fun h₃ F₃ => ?_
  exact ⟨rfl, _, rfl, F₃.base, fun b o h1 _ e => F₃.X _ _ h1 (kp _ _ e)⟩
theorem l_home {b₀ B : List Bool} {aG aE aR : Addr} {vG vR : List Value} {rs : List Nat} {t : Tok} (hK : (KF w.params).In h₀) (hd : A.depth < 900) (hh : A.handled = none) (F : FX h₀ h₀ L s.heap m) (kpt : Kept b₀ aG aE aR m) (mb : m "back" = some (.str (enc B) t))
    (lR : s.heap.IsList aR vR.toArray) (iR : Ints vR rs) (lG : s.heap.IsList aG vG.toArray) (iG : Ints vG (grown b₀)) (hb : b₀.length ≤ 100) (hB : B.length ≤ 300) (hsum : rs.sum ≤ 100) (hr : ∀ r ∈ rs, r ≤ 100)
    (hT : ∀ i r, rs[i]? = some r → taken r (passAll (rs.take i) B) = ((grown b₀).take r).sum) :
    wpAny (model P0 w) A (exec (lawSt 11) (lawE L)) (fun fl s₂ => fl = .next ∧ ∃ m₂, Done h₀ L L s m₂ s₂ ∧ Kept b₀ aG aE aR m₂ ∧ ∃ t, m₂ "back" = some (.str (enc (passAll rs B)) t)) (fun _ _ => False) s := by
  have hlenR := iR.length
  refine wpAny_For (ld F.F kpt.rooms ?_)
  refine iter_list (G := L) hh lR (list_ne_ns lR F.F.ns) F.F.ns.lt F
    (fun i h' m' => (∃ t, m' "back" = some (.str (enc (passAll (rs.take i) B)) t)) ∧ Kept b₀ aG aE aR m') (fun i h' h'' m' hJ k => hJ) ⟨⟨_, mb⟩, kpt⟩ (fun i x h₂ m₂ k₂ hx F₂ hJ kp₂ => ?_) (fun h₂ k₂ m₂ F₂ hJ kp₂ => ?_)
  · obtain ⟨⟨tb, mb⟩, kpt₂⟩ := hJ
    rw [List.getElem?_toArray] at hx
    obtain ⟨r, u, er, rfl⟩ := ints_at' iR hx
    have lG₂ := lG.at fun o e => kp₂ _ _ (list_ne_ns lG F.F.ns) (list_ne_ns lG F.F.ns) e
    have htk := List.take_add_one (l := rs) (i := i)
    rw [er] at htk
    have hrr : r ≤ 100 := hr r (List.mem_of_getElem? er)
    have hsumt := sum_take_le rs i
    refine wpAny_mono (turn_ (x := "back") (y := "given") (b := passAll (rs.take i) B) (r := r) (gs := grown b₀) hK hd hh F₂ (upd_ne mb) upd_eq (upd_ne kpt₂.grown) lG₂ iG (by rw [passAll_length]; omega) (by omega) (Nat.le_trans (grown_length _) (by omega)) (Nat.le_trans (grown_total _) (by omega)) (hT i r er)
      (by decide) (by decide) (by decide) (by decide) (by decide) ?k1 ?k2 (by decide) (by decide) ?k3 ?k4) (fun fl s₃ h₃ => ?_) fun _ _ (e : False) => e.elim
    case k1 => kernel_rfl
    case k2 => kernel_rfl
    case k3 => kernel_rfl
    case k4 => kernel_rfl
    obtain ⟨rfl, m₃, ⟨e3, F₃, kp₃⟩, mx₃, mz₃⟩ := h₃
    refine ⟨rfl, s₃.heap, s₃.toks, m₃, e3, F₃, kp₃, ?_, kpt₂.of fun z hz => (mz₃ z (four_ne hz (by decide) (by decide) (by decide) (by decide)) (four_ne hz (by decide) (by decide) (by decide) (by decide))).trans (upd_ne rfl (four_ne hz (by decide) (by decide) (by decide) (by decide)))⟩
    rw [htk, Option.toList_some, passAll_snoc]
    exact mx₃
  · obtain ⟨⟨tb, mb⟩, kpt₂⟩ := hJ
    rw [List.size_toArray, ← hlenR, List.take_length] at mb
    exact ⟨rfl, m₂, ⟨rfl, F₂, kp₂⟩, kpt₂, tb, mb⟩
theorem eqS {E : Value → Shared → Prop} {Q : Value → Shared → Prop} {x y : Str} {t u : Tok} (he : x = y) (h : Q (.bool true) s) : wpAny (model P0 w) A (compareOp .Eq (.str x t) (.str y u)) Q E s := by
  subst he
  refine PyProof.Rows.eq_str ?_
  rw [beq_self_eq_true]; exact h
theorem mulNl {E : Value → Shared → Prop} {Q : Value → Shared → Prop} {n : Nat} {t u : Tok} (hn : n ≤ 1000) (h : ∀ t' k, Q (.str (enc (zs n)) t') { s with toks := k }) : wpAny (model P0 w) A (binaryOp .Mult (.str (Str.ofString "\n") t) (.int (n : Int) u)) Q E s :=
  SB.mul (mulOk_nl n hn) fun t' k => by rw [mul_nl]; exact h t' k
theorem addS {E : Value → Shared → Prop} {Q : Value → Shared → Prop} {a b : List Bool} {t u : Tok} (hl : a.length + b.length ≤ 100000) (h : ∀ t' k, Q (.str (enc (a ++ b)) t') { s with toks := k }) : wpAny (model P0 w) A (binaryOp .Add (.str (enc a) t) (.str (enc b) u)) Q E s :=
  SBL.add (fun t' k _ => by rw [← enc_append]; exact h t' k) (by rw [enc_length, enc_length, sizeLine_val]; omega)
theorem l_return {b₀ B : List Bool} {aG aE aR : Addr} {vR : List Value} {rs : List Nat} {t : Tok} (hK : (KF w.params).In h₀) (hh : A.handled = none) (F : FX h₀ h₀ L s.heap m) (kpt : Kept b₀ aG aE aR m) (mb : m "back" = some (.str (enc B) t))
    (lR : s.heap.IsList aR vR.toArray) (iR : Ints vR rs) (hb : b₀.length ≤ 100) (hB : B.length ≤ 1000) (hsum : rs.sum ≤ 100) (hE : B.reverse = zs rs.sum ++ b₀ ++ zs rs.sum) :
    wpAny (model P0 w) A (exec (lawSt 12) (lawE L)) (fun fl s₂ => fl = .ret (.bool true) ∧ ∃ h' k, s₂ = { s with heap := h', toks := k } ∧ FX h₀ h₀ L h' m) (fun _ _ => False) s := by
  obtain ⟨⟨ts, mst⟩, mgr, men, mro⟩ := id kpt
  have hz : (zs rs.sum).length = rs.sum := by simp [zs]
  refine wpAny_Return_some (wpAny_Compare1 (revS (ld F.F mb (wpAny_UnaryOp (wpAny_Constant_int (neg_int ⟨_, _, _, rfl, rfl, by rw [enc_length]; omega, fun h₁ k₁ t₁ kp₁ => ?_⟩))))))
  rw [enc_rev]
  have F₁ := F.keeps kp₁
  have hK₁ := hK.keeps F₁.F.keep
  have lR₁ := lR.at fun o e => kp₁ _ _ e
  refine wpAny_BinOp (wpAny_BinOp (wpAny_BinOp (wpAny_Constant_str (Call_ (gb hK₁ (v := .builtin "sum") (by kernel_rfl) (by kernel_rfl) (callWith_builtin1 (args_cons (ld F₁.F mro (args_nil ?_)))))))))
  refine sumInts hh lR₁ iR (by omega) fun h₂ k₂ t₂ kp₂ => ?_
  have F₂ := F₁.keeps kp₂
  have hK₂ := hK.keeps F₂.F.keep
  have lR₂ := lR₁.at fun o e => kp₂ _ _ e
  refine mulNl (by omega) fun t₃ k₃ => ?_
  refine ld F₂.F mst (addS (by rw [hz]; omega) fun t₄ k₄ => ?_)
  refine wpAny_BinOp (wpAny_Constant_str (Call_ (gb hK₂ (v := .builtin "sum") (by kernel_rfl) (by kernel_rfl) (callWith_builtin1 (args_cons (ld F₂.F mro (args_nil ?_)))))))
  refine sumInts hh lR₂ iR (by omega) fun h₅ k₅ t₅ kp₅ => ?_
  refine mulNl (by omega) fun t₆ k₆ => addS (by rw [List.length_append, hz]; omega) fun t₇ k₇ => ?_
  exact eqS (by rw [hE]) ⟨rfl, _, _, rfl, F₂.keeps kp₅⟩
end
end Mine
end
noncomputable section
open PySem PySem.W PyProof.Rows PySem.Calls
set_option maxRecDepth 100000
namespace Mine
open Bbs
def Same (s s' : Shared) : Prop := s' = { s with heap := s'.heap, toks := s'.toks }
theorem Same.trans {s s' s'' : Shared} (h : Same s s') (h' : Same s' s'') : Same s s'' := by
  unfold Same at *
  rw [h'] 
  dsimp only
  rw [h]
theorem tup_kept {h h' : Heap} {L : Addr} {m : Str → Option Value} (hn : h.Ns L m) (k : ∀ b o, b ≠ L → h.get? b = some o → h'.get? b = some o) : TupKept h h' := fun b o hc hd e => k b o (by
  rintro rfl
  obtain ⟨o', _, _, e', d', _⟩ := hn
  obtain ⟨vs, n, hd⟩ := hd
  rw [e] at e'; cases e'; rw [hd] at d'; cases d') e
theorem kept_start {b₀ : List Bool} {aG aE aR : Addr} {t : Tok} {m : Str → Option Value} : Kept b₀ aG aE aR (upd (upd (upd (upd m "start" (.str (enc b₀) t)) "rooms" (.ref aR)) "grown" (.ref aG)) "ends" (.ref aE)) :=
  ⟨⟨t, upd_ne (upd_ne (upd_ne upd_eq))⟩, upd_ne upd_eq, upd_eq, upd_ne (upd_ne upd_eq)⟩
theorem bodyL : dLaw.body = [lawSt 0, lawSt 1, lawSt 2, lawSt 3, lawSt 4, lawSt 5, lawSt 6, lawSt 7, lawSt 8, lawSt 9, lawSt 10, lawSt 11, lawSt 12] := by kernel_rfl
section
variable {w : World} {A : Around} {s : Shared} {h₀ : Heap} {L : Addr} {m : Str → Option Value}
set_option maxHeartbeats 2000000 in
theorem body_law {l : Addr} {vs : List Value} {ns : List Int} (hK : (KF w.params).In h₀) (hd : A.depth < 900) (hh : A.handled = none) (hu : A.units + 64 < cLine) (F : FX h₀ h₀ L s.heap m) (ms : m "script" = some (.ref l)) (hl : s.heap.IsList l vs.toArray) (hi : IntsAre vs ns) (hn : ns.length ≤ 63) (hk : 1 ≤ s.toks) :
    wpAny (model P0 w) A (execs dLaw.body (lawE L)) (fun fl s₂ => fl = .ret (.bool true) ∧ ∃ h' k m', s₂ = { s with heap := h', toks := k } ∧ FX h₀ h₀ L h' m') (fun _ _ => False) s := by
  rw [bodyL]
  refine wpAny_execs_cons (toksUp (wpAny_mono (l_draws hK hh F ms hl hi hn) (fun fl s₁ h₁ k₁ => ?_) fun _ _ (e : False) => e.elim))
  obtain ⟨rfl, aD, uD, ⟨e₁, F₁, p₁⟩, lD, iD⟩ := h₁
  have dlen := draws_length ns
  have dlt : ∀ x ∈ drawsOf ns, x < 168 := draws_lt
  generalize drawsOf ns = ds at iD dlen dlt
  have nD := list_ne_ns lD F₁.F.ns
  refine wpAny_execs_cons (toksUp (wpAny_mono (l_items hK hd hh F₁ upd_eq lD iD (by omega) dlt) (fun fl s₂ h₂ k₂ => ?_) fun _ _ (e : False) => e.elim))
  obtain ⟨rfl, aI, uI, ⟨e₂, F₂, p₂⟩, lI, pI⟩ := h₂
  have dl7 : (ds.take 7).length ≤ 7 := List.length_take_le _ _
  have dlt7 : ∀ x ∈ ds.take 7, x < 168 := fun x hx => dlt x (List.mem_of_mem_take hx)
  have blen := start_length dlt7
  have lD := lD.at fun o e => p₂ _ _ nD nD e
  have nI := list_ne_ns lI F₂.F.ns
  refine wpAny_execs_cons (toksUp (wpAny_mono (l_prepared hK hd hh F₂ upd_eq lI pI (by omega) dlt7) (fun fl s₃ h₃ k₃ => ?_) fun _ _ (e : False) => e.elim))
  obtain ⟨rfl, x, tx', ⟨e₃, F₃, p₃⟩, hx⟩ := h₃
  have lD := lD.at fun o e => p₃ _ _ nD nD e
  have lI := lI.at fun o e => p₃ _ _ nI nI e
  have pI := Paired.mono (fun a v q => PairAt.mono q (tup_kept F₂.F.ns fun b o h1 e => p₃ b o h1 h1 e)) pI
  refine wpAny_execs_cons (toksUp (wpAny_mono (l_same hK hd hh F₃ (upd_ne upd_eq) upd_eq hx lI pI (by omega) dlt7) (fun fl s₄ h₄ k₄ => ?_) fun _ _ (e : False) => e.elim))
  obtain ⟨rfl, ⟨e₄, F₄, p₄⟩⟩ := h₄
  have lD := lD.at fun o e => p₄ _ _ nD nD e
  generalize startOf (ds.take 7) = b₀ at hx blen
  have hb : b₀.length ≤ 100 := by omega
  refine wpAny_execs_cons (wpAny_mono (l_start F₄ upd_eq hx (by omega) (by omega)) (fun fl s₅ h₅ => ?_) fun _ _ (e : False) => e.elim)
  obtain ⟨rfl, ts, ⟨e₅, F₅, p₅⟩⟩ := h₅
  have lD := lD.at fun o e => p₅ _ _ nD nD e
  refine wpAny_execs_cons (wpAny_mono (l_rooms hh F₅ (upd_ne (upd_ne (upd_ne upd_eq))) lD iD (by omega)) (fun fl s₆ h₆ => ?_) fun _ _ (e : False) => e.elim)
  obtain ⟨rfl, aR, uR, ⟨e₆, F₆, p₆⟩, lR, iR⟩ := h₆
  obtain ⟨ra, rb, rc, er, ba, bb, bc⟩ := rooms_three dlen
  rw [er] at iR
  have nR := list_ne_ns lR F₆.F.ns
  refine wpAny_execs_cons (wpAny_mono (l_grown hK hd hh F₆ (upd_ne upd_eq) (by omega)) (fun fl s₇ h₇ => ?_) fun _ _ (e : False) => e.elim)
  obtain ⟨rfl, aG, uG, ⟨e₇, F₇, p₇⟩, lG, iG⟩ := h₇
  have lR := lR.at fun o e => p₇ _ _ nR nR e
  have nG := list_ne_ns lG F₇.F.ns
  refine wpAny_execs_cons (wpAny_mono (l_ends F₇) (fun fl s₈ h₈ => ?_) fun _ _ (e : False) => e.elim)
  obtain ⟨rfl, aE, ⟨e₈, F₈, p₈⟩, lE, hE7⟩ := h₈
  have hE0 : h₀.get? aE = none := by
    cases q : h₀.get? aE with
    | none => rfl
    | some o => rw [F₇.F.keep _ _ q] at hE7; cases hE7
  have hGE : aG ≠ aE := by rintro rfl; obtain ⟨o, q, _⟩ := lG; rw [q] at hE7; cases hE7
  have hRE : aR ≠ aE := by rintro rfl; obtain ⟨o, q, _⟩ := lR; rw [q] at hE7; cases hE7
  have lR := lR.at fun o e => p₈ _ _ nR nR e
  have lG := lG.at fun o e => p₈ _ _ nG nG e
  have hsum : [ra, rb, rc].sum ≤ 100 := by simp; omega
  have hr : ∀ r ∈ [ra, rb, rc], r ≤ 100 := fun r q => by
    simp only [List.mem_cons, List.not_mem_nil, or_false] at q
    omega
  have kpt := kept_start (aR := aR) (aG := aG) (aE := aE) (b₀ := b₀) (t := ts) (m := upd (upd (upd m "draws" (.ref aD)) "items" (.ref aI)) "prepared" (.str x tx'))
  refine wpAny_execs_cons (wpAny_mono (l_loop hK hd hh F₈ kpt lR iR lG iG lE hE0 hGE hRE hb (by simp) hsum hr) (fun fl s₉ h₉ => ?_) fun _ _ (e : False) => e.elim)
  obtain ⟨rfl, m₉, uE, e₉, F₉, p₉, kpt₉, lE, tE⟩ := h₉
  rw [ends_same] at tE
  have lR := lR.at fun o e => p₉ _ _ nR hRE e
  have lG := lG.at fun o e => p₉ _ _ nG hGE e
  have hlenE := passAll_length [ra, rb, rc] b₀
  have nE := list_ne_ns lE.isList F₉.F.ns
  refine wpAny_execs_cons (wpAny_mono (l_test (e := passAll [ra, rb, rc] b₀) hK hd hh hu F₉ kpt₉.grown kpt₉.ends lG (by rw [passAll_grown]; exact iG) lE tE (by omega)) (fun fl sA hA => ?_) fun _ _ (e : False) => e.elim)
  obtain ⟨rfl, ⟨eA, FA, pA⟩⟩ := hA
  have lR := lR.at fun o e => pA _ _ nR nR e
  have lG := lG.at fun o e => pA _ _ nG nG e
  have lE := lE.at fun o e => pA _ _ nE nE e
  refine wpAny_execs_cons (wpAny_mono (l_back FA kpt₉.ends lE tE (by omega)) (fun fl sB hB => ?_) fun _ _ (e : False) => e.elim)
  obtain ⟨rfl, tB, ⟨eB, FB, pB⟩⟩ := hB
  have lR := lR.at fun o e => pB _ _ nR nR e
  have lG := lG.at fun o e => pB _ _ nG nG e
  have kptB : Kept b₀ aG aE aR _ := kpt₉.of (m' := upd m₉ "back" (.str (enc (passAll [ra, rb, rc] b₀).reverse) tB)) fun z hz => upd_ne rfl (four_ne hz (by decide) (by decide) (by decide) (by decide))
  refine wpAny_execs_cons (wpAny_mono (l_home (rs := [ra, rb, rc]) (B := (passAll [ra, rb, rc] b₀).reverse) hK hd hh FB kptB upd_eq lR iR lG iG hb (by rw [List.length_reverse]; omega) hsum hr (fun i r q => back_sum _ _ (List.mem_of_getElem? q))) (fun fl sC hC => ?_) fun _ _ (e : False) => e.elim)
  obtain ⟨rfl, mC, ⟨eC, FC, pC⟩, kptC, tC, mbC⟩ := hC
  have lR := lR.at fun o e => pC _ _ nR nR e
  refine wpAny_execs_cons (wpAny_mono (l_return hK hh FC kptC mbC lR iR hb (by rw [passAll_length, List.length_reverse, hlenE]; omega) hsum (back_end _ _ _ _)) (fun fl sD hD => ?_) fun _ _ (e : False) => e.elim)
  obtain ⟨rfl, h', k', eD, FD⟩ := hD
  refine ⟨rfl, h', k', mC, ?_, FD⟩
  have q : Same s sC := ((((((((((((show Same s s₁ from e₁).trans e₂).trans e₃).trans e₄).trans e₅).trans e₆).trans e₇).trans e₈).trans e₉).trans eA).trans eB).trans eC)
  rw [eD]
  unfold Same at q
  rw [q]
end
end Mine
end
noncomputable section
open PySem PySem.W PyProof.Rows PySem.Calls
set_option maxRecDepth 100000
namespace Mine
theorem ns_unique {h : Heap} {a : Addr} {m m' : Str → Option Value} (x : h.Ns a m) (y : h.Ns a m') (k : Str) : m k = m' k := by
  obtain ⟨o, es, n, e, d, _, q⟩ := x
  obtain ⟨o', es', n', e', d', _, q'⟩ := y
  rw [e] at e'; cases e'
  rw [d] at d'; cases d'
  exact (q k).symm.trans (q' k)
theorem c_law {w : World} {s : Shared} {l : Addr} {vs : List Value} {ns : List Int} (hK : (KF w.params).In s.heap) (hl : s.heap.IsList l vs.toArray) (hi : IntsAre vs ns) (hn : ns.length ≤ 63) :
    codeAny (model P0 w) callerA (.call (.ref 150) ⟨[.ref l], []⟩) (fun r s' => r = .ok (.ret (.bool true)) ∧ ∃ h' k L m', s' = { s with heap := h', toks := k } ∧ Fr s.heap L h' m') s := by
  refine call_plain_ret (o := o150S20 w.params) (binds := [("script", .ref l)]) (by decide +kernel) (hK _ _ rfl) rfl (nolimitF hK) (codeRec_of hK (by kernel_rfl)) rfl (locs (by rfl)) fun h₁ F => ?_
  refine wpAny_mono (body_law (s := { s with heap := h₁, toks := s.toks + 1 }) (l := l) hK ?d ?hh ?u (FX.of F).base ?ms (hl.at fun o e => F.keep _ _ e) hi hn ?k) (fun fl s₂ h₂ => ?_) fun _ _ (e : False) => e.elim
  case d => show 1 + claimMargin + 1 < 900; decide +kernel
  case hh => rfl
  case u => show 4 + 3 + 64 < cLine; decide +kernel
  case ms => rfl
  case k => exact Nat.succ_pos _
  obtain ⟨rfl, h', k, m', rfl, F'⟩ := h₂
  exact ⟨rfl, h', k, _, m', rfl, F'.F⟩
set_option maxHeartbeats 1000000 in
theorem callit : WalkO q0 loose0 (XL q0 []) hk0.says PySem.Challenge.rw_re0094_01.row.toRowW dLaw [] fun f vs => PySem.call f vs := by
  intro w s₀ s₁ mg mb G Y fa o pm cd doc dV kV ho hd hcd hD hmg hg args vals as hpre hlay hrd hwl hlo
  have KX : (KF w.params).In s₁.heap := kIn_of Y
  have hfa : fa = 150 := by
    have e := ns_unique G.T.g (globalsF KX) dLaw.name
    rw [hmg] at e
    have e2 : mgF w.params dLaw.name = some (.ref 150) := by kernel_rfl
    rw [e2] at e
    cases e; rfl
  subst hfa
  wrow_args hpre hlay hrd hwl hlo
  rename_i ns _ _ _ _ _ _ _ l vs _ lV _ _ _ iV _ hlen _
  refine wpAny_call (codeAny_mono (c_law KX lV iV (by omega)) fun r s' h => ?_)
  obtain ⟨rfl, h', k, L, m', rfl, F⟩ := h
  refine GoodW.toG (goodW_bool (s' := { s₁ with heap := h', toks := k }) F hg ?gr ?gp)
  case gr => intro cls; kernel_rfl
  case gp => kernel_rfl
end Mine
end
set_option maxRecDepth 100000 in
set_option maxHeartbeats 4000000 in
theorem PySem.Challenge.cw_re0094_01_holds : PySem.Challenge.rw_re0094_01.Holds := by
  exact Mine.top0 Mine.callit
