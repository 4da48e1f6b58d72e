import Derived.Tactics
namespace Go.Proofs.Qxb6612530a

/-- The digit of a number below 16, as a byte. -/
def hexd (n : Int) : Int := if n < 10 then 48 + n else 87 + n
/-- The byte at place j of the text of A. -/
def encAt (A : List Int) (j : Nat) : Int := if j % 2 = 0 then hexd (A.getD (j / 2) 0 / 16) else hexd (A.getD (j / 2) 0 % 16)
/-- Every number of A is a byte. -/
def Bytes (A : List Int) : Prop := ∀ i, 0 ≤ A.getD i 0 ∧ A.getD i 0 < 256
def tab : ByteArray := ⟨#[48, 49, 50, 51, 52, 53, 54, 55, 56, 57, 97, 98, 99, 100, 101, 102]⟩

theorem tab_at : ∀ n : Fin 16, ((tab.data.toList.getD n.val 0).toNat : Int) = hexd (n.val : Int) := by decide +kernel
theorem hexd_lt {a b : Int} (h0 : 0 ≤ a) (h1 : a < 16) (h2 : 0 ≤ b) (h3 : b < 16) : hexd a < hexd b ↔ a < b := by
  unfold hexd
  constructor <;> intro h <;> split at * <;> split at * <;> omega
theorem encAt_even (A : List Int) (k : Nat) : encAt A (2 * k) = hexd (A.getD k 0 / 16) := by
  unfold encAt; rw [if_pos (by omega), show 2 * k / 2 = k by omega]
theorem encAt_odd (A : List Int) (k : Nat) : encAt A (2 * k + 1) = hexd (A.getD k 0 % 16) := by
  unfold encAt; rw [if_neg (by omega), show (2 * k + 1) / 2 = k by omega]

/-- The comparison of f and g over their first n places, from place i on (fuel n - i). -/
def cmpFrom (f g : Nat → Int) : Nat → Nat → Int
  | 0, _ => 0
  | d + 1, i => if f i < g i then -1 else if g i < f i then 1 else cmpFrom f g d (i + 1)

/-- Texts compare as their bytes do. -/
theorem cmp_enc (A B : List Int) (hA : Bytes A) (hB : Bytes B) : ∀ d i, cmpFrom (encAt A) (encAt B) (2 * d) (2 * i) = cmpFrom (fun j => A.getD j 0) (fun j => B.getD j 0) d i := by
  intro d
  induction d with
  | zero => intro i; rfl
  | succ d ih =>
    intro i
    have a := hA i
    have b := hB i
    have h1 := hexd_lt (a := A.getD i 0 / 16) (b := B.getD i 0 / 16) (by omega) (by omega) (by omega) (by omega)
    have h2 := hexd_lt (a := B.getD i 0 / 16) (b := A.getD i 0 / 16) (by omega) (by omega) (by omega) (by omega)
    have h3 := hexd_lt (a := A.getD i 0 % 16) (b := B.getD i 0 % 16) (by omega) (by omega) (by omega) (by omega)
    have h4 := hexd_lt (a := B.getD i 0 % 16) (b := A.getD i 0 % 16) (by omega) (by omega) (by omega) (by omega)
    have e := ih (i + 1)
    show cmpFrom (encAt A) (encAt B) (2 * d + 1 + 1) (2 * i) = _
    rw [show 2 * (i + 1) = 2 * i + 1 + 1 by omega] at e
    simp only [cmpFrom]
    rw [encAt_even, encAt_even, encAt_odd, encAt_odd, e]
    by_cases c1 : A.getD i 0 < B.getD i 0
    · rw [if_pos c1]
      by_cases d1 : A.getD i 0 / 16 < B.getD i 0 / 16
      · rw [if_pos (h1.2 d1)]
      · rw [if_neg (fun h => d1 (h1.1 h)), if_neg (fun h => by have := h2.1 h; omega), if_pos (h3.2 (by omega))]
    · rw [if_neg c1]
      by_cases c2 : B.getD i 0 < A.getD i 0
      · rw [if_pos c2]
        rw [if_neg (fun h => by have := h1.1 h; omega)]
        by_cases d2 : B.getD i 0 / 16 < A.getD i 0 / 16
        · rw [if_pos (h2.2 d2)]
        · rw [if_neg (fun h => d2 (h2.1 h)), if_neg (fun h => by have := h3.1 h; omega), if_pos (h4.2 (by omega))]
      · rw [if_neg c2]
        have : A.getD i 0 = B.getD i 0 := by omega
        rw [this]
        simp
end Go.Proofs.Qxb6612530a
