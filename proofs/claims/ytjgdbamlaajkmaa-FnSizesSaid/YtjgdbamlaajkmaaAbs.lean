/- What absorbing and squeezing do, byte by byte and in pieces. Plain lemmas; no condition. -/
import Derived.Test.YtjgdbamlaajkmaaXorb
namespace Go.Sha

/-- a sponge of bytes, its place within its rate -/
structure Dg.Ok (d : Dg) : Prop where
  len : d.a.length = 200
  lt : d.n < d.rate
  le : d.rate ≤ 168

def absorb1 (d : Dg) (x : UInt8) : Dg :=
  if d.n + 1 = d.rate then { d with a := kf (d.a.set d.n (d.a.getD d.n 0 ^^^ x)), n := 0 }
  else { d with a := d.a.set d.n (d.a.getD d.n 0 ^^^ x), n := d.n + 1 }
/-- a sponge behind the absorption of bytes -/
def absorb (d : Dg) (p : Bs) : Dg := p.foldl absorb1 d
theorem absorb_nil (d : Dg) : absorb d [] = d := rfl
theorem absorb_append (d : Dg) (p q : Bs) : absorb d (p ++ q) = absorb (absorb d p) q := by simp [absorb, List.foldl_append]
theorem absorb1_ok {d : Dg} (h : d.Ok) (x : UInt8) : (absorb1 d x).Ok ∧ (absorb1 d x).rate = d.rate ∧ (absorb1 d x).ds = d.ds ∧ (absorb1 d x).out = d.out ∧ (absorb1 d x).st = d.st := by
  unfold absorb1
  have h1 := h.len
  have h2 := h.lt
  have h3 := h.le
  split
  · exact ⟨⟨kf_length _, by simp only; omega, h3⟩, rfl, rfl, rfl, rfl⟩
  · exact ⟨⟨by simp [h1], by simp only; omega, h3⟩, rfl, rfl, rfl, rfl⟩
theorem absorb_ok {d : Dg} (h : d.Ok) (p : Bs) : (absorb d p).Ok ∧ (absorb d p).rate = d.rate ∧ (absorb d p).ds = d.ds ∧ (absorb d p).out = d.out ∧ (absorb d p).st = d.st := by
  induction p generalizing d with
  | nil => exact ⟨h, rfl, rfl, rfl, rfl⟩
  | cons x p ih =>
    have h1 := absorb1_ok h x
    have h2 := ih h1.1
    exact ⟨h2.1, h2.2.1.trans h1.2.1, h2.2.2.1.trans h1.2.2.1, h2.2.2.2.1.trans h1.2.2.2.1, h2.2.2.2.2.trans h1.2.2.2.2⟩

theorem xorAt_nil (a : Bs) (i : Nat) : xorAt a i [] = a := by simp [xorAt]
theorem xorAt_cons (a : Bs) (i : Nat) (x : UInt8) (p : Bs) (h : i < a.length) : xorAt a i (x :: p) = xorAt (a.set i (a.getD i 0 ^^^ x)) (i + 1) p := by
  unfold xorAt
  rw [List.drop_eq_getElem_cons h, getD_at a i h]
  simp only [List.zipWith_cons_cons, List.length_cons]
  rw [show i + (p.length + 1) = i + 1 + p.length by omega]
  rw [List.drop_set, if_pos (by omega), List.drop_set, if_pos (by omega)]
  rw [List.take_set, List.take_succ_eq_append_getElem h, List.set_append_right _ _ (by simp; omega)]
  simp [Nat.min_eq_left (Nat.le_of_lt h)]

/-- a piece that fits: the bytes are laid over the sponge's; if that fills the rate, the permutation -/
theorem absorb_piece (d : Dg) (p : Bs) (h : d.Ok) (hp : d.n + p.length ≤ d.rate) :
    absorb d p = if d.n + p.length = d.rate then permD { d with a := xorAt d.a d.n p } else { d with a := xorAt d.a d.n p, n := d.n + p.length } := by
  induction p generalizing d with
  | nil =>
    have := h.lt
    rw [if_neg (by simp; omega), xorAt_nil]
    rfl
  | cons x p ih =>
    have h1 := h.len
    have h2 := h.le
    simp only [List.length_cons] at hp ⊢
    show absorb (absorb1 d x) p = _
    rw [xorAt_cons d.a d.n x p (by omega)]
    cases p with
    | nil =>
      rw [xorAt_nil]
      simp only [List.length_nil, Nat.zero_add]
      rfl
    | cons y p =>
      simp only [List.length_cons] at hp
      have e : absorb1 d x = { d with a := d.a.set d.n (d.a.getD d.n 0 ^^^ x), n := d.n + 1 } := by
        unfold absorb1
        rw [if_neg (by omega)]
      rw [e, ih { d with a := d.a.set d.n (d.a.getD d.n 0 ^^^ x), n := d.n + 1 } ⟨by simp [h1], by simp only; omega, h2⟩ (by simp only [List.length_cons]; omega)]
      simp only [List.length_cons]
      by_cases hf : d.n + (p.length + 1 + 1) = d.rate
      · rw [if_pos hf, if_pos (by omega)]
        rfl
      · rw [if_neg hf, if_neg (by omega)]
        congr 1
        omega

/-- one byte of output -/
def squeeze1 (d : Dg) : Dg := if d.n = d.rate then permD d else d
def squeeze : Nat → Dg → Bs × Dg
  | 0, d => ([], d)
  | k + 1, d => ((squeeze1 d).a.getD (squeeze1 d).n 0 :: (squeeze k { squeeze1 d with n := (squeeze1 d).n + 1 }).1, (squeeze k { squeeze1 d with n := (squeeze1 d).n + 1 }).2)
theorem squeeze_length (k : Nat) (d : Dg) : (squeeze k d).1.length = k := by
  induction k generalizing d with
  | zero => rfl
  | succ k ih => simp [squeeze, ih]
theorem squeeze_add (j k : Nat) (d : Dg) : squeeze (j + k) d = ((squeeze j d).1 ++ (squeeze k (squeeze j d).2).1, (squeeze k (squeeze j d).2).2) := by
  induction j generalizing d with
  | zero => simp [squeeze]
  | succ j ih =>
    rw [show j + 1 + k = (j + k) + 1 by omega]
    simp only [squeeze, ih, List.cons_append]
/-- a sponge that is read: its place is at most its rate -/
structure Dg.Sq (d : Dg) : Prop where
  len : d.a.length = 200
  le : d.n ≤ d.rate
  pos : 0 < d.rate
  rle : d.rate ≤ 168
theorem squeeze1_sq {d : Dg} (h : d.Sq) : (squeeze1 d).Sq ∧ (squeeze1 d).n < (squeeze1 d).rate ∧ (squeeze1 d).rate = d.rate ∧ (squeeze1 d).ds = d.ds ∧ (squeeze1 d).out = d.out ∧ (squeeze1 d).st = d.st := by
  have h1 := h.le
  have h2 := h.pos
  unfold squeeze1
  split
  · exact ⟨⟨kf_length _, Nat.zero_le _, h.pos, h.rle⟩, h.pos, rfl, rfl, rfl, rfl⟩
  · exact ⟨h, by omega, rfl, rfl, rfl, rfl⟩
theorem squeeze_sq (k : Nat) (d : Dg) (h : d.Sq) : (squeeze k d).2.Sq ∧ (squeeze k d).2.rate = d.rate ∧ (squeeze k d).2.ds = d.ds ∧ (squeeze k d).2.out = d.out ∧ (squeeze k d).2.st = d.st := by
  induction k generalizing d with
  | zero => exact ⟨h, rfl, rfl, rfl, rfl⟩
  | succ k ih =>
    have h1 := squeeze1_sq h
    have h2 := ih { squeeze1 d with n := (squeeze1 d).n + 1 } ⟨h1.1.len, h1.2.1, h1.1.pos, h1.1.rle⟩
    exact ⟨h2.1, h2.2.1.trans h1.2.2.1, h2.2.2.1.trans h1.2.2.2.1, h2.2.2.2.1.trans h1.2.2.2.2.1, h2.2.2.2.2.trans h1.2.2.2.2.2⟩
/-- a piece that lies within the rate -/
theorem squeeze_piece (k : Nat) (d : Dg) (h : d.Sq) (hk : d.n + k ≤ d.rate) (hlt : d.n < d.rate) : squeeze k d = ((d.a.drop d.n).take k, { d with n := d.n + k }) := by
  induction k generalizing d with
  | zero => simp [squeeze]
  | succ k ih =>
    have h1 := h.len
    have h2 := h.rle
    have e : squeeze1 d = d := by unfold squeeze1; rw [if_neg (by omega)]
    simp only [squeeze, e]
    have hd : d.a.drop d.n = d.a.getD d.n 0 :: d.a.drop (d.n + 1) := by rw [List.drop_eq_getElem_cons (by omega), getD_at _ _ (by omega)]
    cases k with
    | zero =>
      simp only [squeeze, Nat.zero_add, hd, List.take_succ_cons, List.take_zero]
    | succ k =>
      rw [ih { d with n := d.n + 1 } ⟨h1, by simp only; omega, h.pos, h2⟩ (by simp only; omega) (by simp only; omega)]
      simp only [hd, List.take_succ_cons]
      congr 2
      omega
end Go.Sha
