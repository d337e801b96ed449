/-
  Seat b6621692a: THE PLAIN LAW: the message of a list of type names, and that it parts at any cut. No Go in it.
-/
import Derived.Lib.Join
import Derived.Laws.Strings
namespace Go.Proofs.Qxb6621692a.Plain
open Go.Lib

/-- One name with its article. -/
def nmd (s : ByteArray) : ByteArray :=
  if (s.toList == [110, 117, 108, 108]) = true then s
  else if (s.toList == [97, 114, 114, 97, 121]) = true then { data := #[97, 110, 32] } ++ s
  else if (s.toList == [105, 110, 116, 101, 103, 101, 114]) = true then { data := #[97, 110, 32] } ++ s
  else if (s.toList == [111, 98, 106, 101, 99, 116]) = true then { data := #[97, 110, 32] } ++ s
  else { data := #[97, 32] } ++ s

theorem nmd_null {s : ByteArray} (h : (s.toList == [110, 117, 108, 108]) = true) : nmd s = s := by simp only [nmd, h, if_true]
theorem nmd_arr {s : ByteArray} (h0 : (s.toList == [110, 117, 108, 108]) = false) (h : (s.toList == [97, 114, 114, 97, 121]) = true) : nmd s = { data := #[97, 110, 32] } ++ s := by
  simp [nmd, h0, h]
theorem nmd_int {s : ByteArray} (h0 : (s.toList == [110, 117, 108, 108]) = false) (h1 : (s.toList == [97, 114, 114, 97, 121]) = false) (h : (s.toList == [105, 110, 116, 101, 103, 101, 114]) = true) :
    nmd s = { data := #[97, 110, 32] } ++ s := by
  simp [nmd, h0, h1, h]
theorem nmd_obj {s : ByteArray} (h0 : (s.toList == [110, 117, 108, 108]) = false) (h1 : (s.toList == [97, 114, 114, 97, 121]) = false) (h2 : (s.toList == [105, 110, 116, 101, 103, 101, 114]) = false)
    (h : (s.toList == [111, 98, 106, 101, 99, 116]) = true) : nmd s = { data := #[97, 110, 32] } ++ s := by
  simp [nmd, h0, h1, h2, h]
theorem nmd_else {s : ByteArray} (h0 : (s.toList == [110, 117, 108, 108]) = false) (h1 : (s.toList == [97, 114, 114, 97, 121]) = false) (h2 : (s.toList == [105, 110, 116, 101, 103, 101, 114]) = false)
    (h : (s.toList == [111, 98, 106, 101, 99, 116]) = false) : nmd s = { data := #[97, 32] } ++ s := by
  simp [nmd, h0, h1, h2, h]

theorem null_eq {s : ByteArray} (h : (s.toList == [110, 117, 108, 108]) = true) : ({ data := #[110, 117, 108, 108] } : ByteArray) = s := by
  have h' : s.toList = [110, 117, 108, 108] := by simpa using h
  rw [ByteArray.toList_eq] at h'
  cases s with
  | mk d =>
    congr 1
    apply Array.ext'
    simpa using h'.symm

theorem size_nmd (s : ByteArray) : (nmd s).size ≤ s.size + 3 := by
  unfold nmd
  split
  · omega
  · split
    · simp [ByteArray.size_append]; have : (ByteArray.size { data := #[97, 110, 32] }) = 3 := rfl
      omega
    · split
      · simp [ByteArray.size_append]; have : (ByteArray.size { data := #[97, 110, 32] }) = 3 := rfl
        omega
      · split
        · simp [ByteArray.size_append]; have : (ByteArray.size { data := #[97, 110, 32] }) = 3 := rfl
          omega
        · simp [ByteArray.size_append]; have : (ByteArray.size { data := #[97, 32] }) = 2 := rfl
          omega

/-- The separator. -/
def sep : List UInt8 := [32, 111, 114, 32]
/-- The message. -/
def msg (xs : List ByteArray) : List UInt8 := join ((xs.map nmd).map (·.data.toList)) sep
def msgB (xs : List ByteArray) : ByteArray := ⟨(msg xs).toArray⟩

/-- The lengths of the names, sixteen a name besides: what the law counts. -/
def tot : List ByteArray → Nat
  | [] => 0
  | s :: r => tot r + (16 + s.size)

theorem tot_snoc (l : List ByteArray) (s : ByteArray) : tot (l ++ [s]) = tot l + (16 + s.size) := by
  induction l with
  | nil => simp [tot]
  | cons x r ih => simp only [List.cons_append, tot, ih]; omega

theorem tot_append (l r : List ByteArray) : tot (l ++ r) = tot l + tot r := by
  induction l with
  | nil => simp [tot]
  | cons x l ih => simp only [List.cons_append, tot, ih]; omega

theorem tot_len (l : List ByteArray) : 16 * l.length ≤ tot l := by
  induction l with
  | nil => simp [tot]
  | cons x r ih => simp only [tot, List.length_cons]; omega

theorem tot_mem (l : List ByteArray) (s : ByteArray) (h : s ∈ l) : s.size ≤ tot l := by
  induction l with
  | nil => cases h
  | cons x r ih =>
    rcases List.mem_cons.1 h with rfl | h
    · simp only [tot]; omega
    · have := ih h; simp only [tot]; omega

theorem lens_le (l : List ByteArray) : lens ((l.map nmd).map (·.data.toList)) ≤ tot l := by
  induction l with
  | nil => simp [lens, tot]
  | cons x r ih =>
    have h := size_nmd x
    have e : (nmd x).data.toList.length = (nmd x).size := by simp
    simp only [lens, List.map_cons, tot, List.sum_cons] at ih ⊢
    omega

theorem msg_len (l : List ByteArray) : (msg l).length ≤ 2 * tot l := by
  cases l with
  | nil => simp [msg, join_nil]
  | cons x r =>
    unfold msg
    rw [List.map_cons, List.map_cons, join_length]
    have h1 := lens_le (x :: r)
    rw [List.map_cons, List.map_cons] at h1
    have h2 := tot_len (x :: r)
    have h3 : sep.length = 4 := rfl
    simp only [List.length_map, h3, List.length_cons] at *
    omega

theorem joinTail_append (s : List UInt8) (a b : List (List UInt8)) : joinTail s (a ++ b) = joinTail s a ++ joinTail s b := by
  simp [joinTail, List.map_append, List.flatten_append]

theorem joinTail_cons (s y : List UInt8) (r : List (List UInt8)) : joinTail s (y :: r) = s ++ (y ++ joinTail s r) := by
  simp [joinTail]

theorem join_cut (s : List UInt8) (a b : List (List UInt8)) (ha : a ≠ []) (hb : b ≠ []) : join (a ++ b) s = join a s ++ s ++ join b s := by
  cases a with
  | nil => exact absurd rfl ha
  | cons x r =>
    cases b with
    | nil => exact absurd rfl hb
    | cons y q =>
      rw [List.cons_append, join_cons, join_cons, join_cons, joinTail_append, joinTail_cons]
      simp [List.append_assoc]

theorem msg_cut (xs : List ByteArray) (k : Nat) (h1 : 0 < k) (h2 : k < xs.length) : msg xs = msg (xs.take k) ++ sep ++ msg (xs.drop k) := by
  have h := join_cut sep (((xs.take k).map nmd).map (·.data.toList)) (((xs.drop k).map nmd).map (·.data.toList))
    (by intro e; have := congrArg List.length e; simp only [List.length_map, List.length_take, List.length_nil] at this; omega) (by intro e; have := congrArg List.length e; simp only [List.length_map, List.length_drop, List.length_nil] at this; omega)
  rw [← List.map_append, ← List.map_append, List.take_append_drop] at h
  exact h

theorem msg_one (s : ByteArray) : msg [s] = (nmd s).data.toList := by
  simp [msg, join_one]

theorem msgB_one (s : ByteArray) : msgB [s] = nmd s := by
  simp [msgB, msg_one]

end Go.Proofs.Qxb6621692a.Plain
