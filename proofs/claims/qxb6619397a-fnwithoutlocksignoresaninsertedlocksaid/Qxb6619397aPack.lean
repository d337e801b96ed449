/-
  Seat b6619397a: what ZZWithoutLocks hands back for the shorter schedule and for the longer one, side by side.
-/
import Derived.Test.Qxb6619397aState
namespace Go.Proofs.Qxb6619397a
open Go.RowKit

theorem IntsF.congr {w : World} {k : IntKind} {a : Option Addr} {n : Nat} {f g : Nat → Int} (h : IntsF w k a n f) (hf : ∀ j, j < n → f j = g j) : IntsF w k a n g := by
  intro hn
  obtain ⟨b, off, ha, hc⟩ := h hn
  exact ⟨b, off, ha, fun j hj => by rw [← hf j hj]; exact hc j hj⟩
theorem StrsF.congr {w : World} {a : Option Addr} {n : Nat} {f g : Nat → ByteArray} (h : StrsF w a n f) (hf : ∀ j, j < n → f j = g j) : StrsF w a n g := by
  intro hn
  obtain ⟨b, off, ha, hc⟩ := h hn
  exact ⟨b, off, ha, fun j hj => by rw [← hf j hj]; exact hc j hj⟩

/-- What ZZWithoutLocks hands back for the shorter schedule. -/
def EndA (W : World) (n L u : Nat) (items : Int) (fk : Nat → Int) (ft : Nat → ByteArray) (fx fi : Nat → Int) (fq : Nat → Nat) (e : Ending) (w' : World) : Prop :=
  ∃ aK cK aT cT aX cX aI cI aA LA cA, e = .returned (.tuple #[.slice aK L cK, .slice aT u cT, .slice aX L cX, .slice aI L cI, .int .i64 items, .slice aA LA cA, .bool true]) ∧
    IntsF w' .u8 aK L fk ∧ StrsF w' aT u ft ∧ IntsF w' .i64 aX L fx ∧ IntsF w' .i64 aI L fi ∧
    ((aA = none ∧ L = n) ∨ ∃ bA, aA = some ⟨bA, 0, none⟩ ∧ LA = L ∧ IntsF w' .i64 aA L (fun j => (fq j : Int))) ∧ Below W.heap.size W w'
/-- What it hands back for the longer one. -/
def EndB (W : World) (P L u : Nat) (items : Int) (fk : Nat → Int) (ft : Nat → ByteArray) (fx fi : Nat → Int) (fq : Nat → Nat) (e : Ending) (w' : World) : Prop :=
  ∃ aK cK aT cT aX cX aI cI bA cA, e = .returned (.tuple #[.slice aK L cK, .slice aT u cT, .slice aX L cX, .slice aI L cI, .int .i64 items, .slice (some ⟨bA, 0, none⟩) L cA, .bool true]) ∧
    IntsF w' .u8 aK L fk ∧ StrsF w' aT u ft ∧ IntsF w' .i64 aX L fx ∧ IntsF w' .i64 aI L fi ∧
    IntsF w' .i64 (some ⟨bA, 0, none⟩) L (fun j => (Plain.sh P (fq j) : Int)) ∧ Below W.heap.size W w'

theorem endB_of {W w' : World} {n nt P : Nat} {items lk lt li : Int} {ks xs is : List Int} {ts : List ByteArray} {e : Ending} (hp : P ≤ n) (hv : Plain.lock lk = true)
    (h : EndsZ W (n + 1) nt items (Plain.ins ks n P lk) (Plain.ins xs n P lt) (Plain.ins is n P li) ts e w') :
    EndB W P (Plain.kp ks n).length (Plain.us ks xs n nt).length items (fun j => ks.getD (kq ks n j) 0) (fT ks xs ts n nt) (fX ks xs n) (fun j => is.getD (kq ks n j) 0) (kq ks n) e w' := by
  obtain ⟨aK, cK, aT, cT, aX, cX, aI, cI, aA, LA, cA, h1, h2, h3, h4, h5, h6, h7⟩ := h
  rw [Plain.len_ins ks n P lk hp hv, Plain.us_ins ks xs n P lk lt hp hv] at h1
  rw [Plain.len_ins ks n P lk hp hv] at h2 h4 h5 h6
  rw [Plain.us_ins ks xs n P lk lt hp hv] at h3
  have hq : ∀ j, j < (Plain.kp ks n).length → kq (Plain.ins ks n P lk) (n + 1) j = Plain.sh P (kq ks n j) := fun j hj => Plain.kq_ins ks n P lk hp hv j hj
  have hl : ∀ j, j < (Plain.kp ks n).length → kq ks n j < n := fun j hj => (Plain.kq_lt ks n j hj).1
  rcases h6 with ⟨_, h6⟩ | ⟨bA, rfl, rfl, h6⟩
  · have := Plain.kp_len_le ks n; omega
  · refine ⟨aK, cK, aT, cT, aX, cX, aI, cI, bA, cA, h1, h2.congr (fun j hj => ?_), h3.congr (fun j _ => ?_), h4.congr (fun j hj => ?_), h5.congr (fun j hj => ?_), h6.congr (fun j hj => ?_), h7⟩
    · show (Plain.ins ks n P lk).getD _ 0 = _
      rw [hq j hj, Plain.ins_sh _ _ _ _ _ (hl j hj)]
    · unfold fT
      rw [Plain.us_ins ks xs n P lk lt hp hv]
    · unfold fX
      rw [hq j hj, Plain.ins_sh _ _ _ _ _ (hl j hj), Plain.rk_ins ks xs n P lk lt hp hv]
    · show (Plain.ins is n P li).getD _ 0 = _
      rw [hq j hj, Plain.ins_sh _ _ _ _ _ (hl j hj)]
    · show ((kq (Plain.ins ks n P lk) (n + 1) j : Nat) : Int) = _
      rw [hq j hj]

theorem zzA (aK aT aX aI : Option Addr) (cK cT cX cI n nt : Nat) (ks xs is : List Int) (ts : List ByteArray) (items : Int) (W : World) (hn : n ≤ 65536) (hnt : nt ≤ 65536)
    (HK : Ints W .u8 aK n ks) (HT : Strs W aT nt ts) (HX : Ints W .i64 aX n xs) (HI : Ints W .i64 aI n is)
    (HQ : ∀ q, q < n → 0 ≤ xs.getD q 0 ∧ xs.getD q 0 < nt) (HH : ∀ t, t < nt → hit xs n t = true) :
    Calls Try.prog 7 #[.slice aK n cK, .slice aT nt cT, .slice aX n cX, .slice aI n cI, .int .i64 items, .slice none 0 0] W fun e w' =>
      EndA W n (Plain.kp ks n).length (Plain.us ks xs n nt).length items (fun j => ks.getD (kq ks n j) 0) (fT ks xs ts n nt) (fX ks xs n) (fun j => is.getD (kq ks n j) 0) (kq ks n) e w' :=
  zz aK aT aX aI cK cT cX cI n nt ks xs is ts items W (by omega) hnt (hid HK) (hid HT) (hid HX) (hid HI) (hid fun j hj _ => HQ j hj) (hid fun hl t ht => Plain.used_all ks xs n nt hl (fun t ht => hit_some (HH t ht)) t ht)

theorem zzB (aK aT aX aI : Option Addr) (cK cT cX cI n nt P : Nat) (ks xs is : List Int) (ts : List ByteArray) (items lk lt li : Int) (W : World) (hn : n ≤ 65536) (hnt : nt ≤ 65536) (hp : P ≤ n) (hv : Plain.lock lk = true)
    (HK : Ints W .u8 aK (n + 1) (Plain.ins ks n P lk)) (HT : Strs W aT nt ts) (HX : Ints W .i64 aX (n + 1) (Plain.ins xs n P lt)) (HI : Ints W .i64 aI (n + 1) (Plain.ins is n P li))
    (HQ : ∀ q, q < n → 0 ≤ xs.getD q 0 ∧ xs.getD q 0 < nt) :
    Calls Try.prog 7 #[.slice aK (n + 1 : Nat) cK, .slice aT nt cT, .slice aX (n + 1 : Nat) cX, .slice aI (n + 1 : Nat) cI, .int .i64 items, .slice none 0 0] W fun e w' =>
      EndB W P (Plain.kp ks n).length (Plain.us ks xs n nt).length items (fun j => ks.getD (kq ks n j) 0) (fT ks xs ts n nt) (fX ks xs n) (fun j => is.getD (kq ks n j) 0) (kq ks n) e w' := by
  refine (zz aK aT aX aI cK cT cX cI (n + 1) nt (Plain.ins ks n P lk) (Plain.ins xs n P lt) (Plain.ins is n P li) ts items W (by omega) hnt (hid HK) (hid HT) (hid HX) (hid HI) (hid fun j hj hl => ?_) (hid fun hl => ?_)).mono (fun e w' h => endB_of hp hv h)
  · rw [Plain.ins_at _ _ _ _ _ hj] at hl ⊢
    by_cases h1 : j < P
    · rw [if_pos h1]; exact HQ j (by omega)
    · rw [if_neg h1] at hl ⊢
      by_cases h2 : j = P
      · rw [if_pos h2, hv] at hl; cases hl
      · rw [if_neg h2]; exact HQ (j - 1) (by omega)
  · rw [Plain.len_ins ks n P lk hp hv] at hl
    have := Plain.kp_len_le ks n; omega

/-- Of an operation that stays: its place among those that stay. -/
theorem stays (ks : List Int) (n q : Nat) (hq : q < n) (hl : Plain.lock (ks.getD q 0) = false) :
    (Plain.kp ks q).length < (Plain.kp ks n).length ∧ kq ks n (Plain.kp ks q).length = q ∧ ((Plain.kp ks n).length = n → (Plain.kp ks q).length = q) := by
  have h1 := Plain.kp_mono ks (k := q + 1) (n := n) (by omega)
  rw [Plain.kp_stay ks q hl] at h1
  simp at h1
  have hlt : (Plain.kp ks q).length < (Plain.kp ks n).length := by omega
  have hk := Plain.kq_of ks n q hq hl
  refine ⟨hlt, hk, fun hn => ?_⟩
  have ha := Plain.kp_all ks n hn
  rw [ha] at hk hlt
  simp at hlt
  simpa [hlt] using hk
end Go.Proofs.Qxb6619397a
