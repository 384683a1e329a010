/- THE PLAIN THEORY OF SNAPPY'S BLOCKS: what an element (a literal, a copy) is as bytes, what a row of elements makes of what came out before it, and how long it is. No program in this text. -/
namespace Go.Proofs.YtbhcdkbcbcmomaaDoor
namespace Sn

/-- A byte of a number: its rest by 256. -/
def b8 (n : Nat) : UInt8 := UInt8.ofNat n
theorem b8_toNat (n : Nat) : (b8 n).toNat = n % 256 := by simp [b8, UInt8.toNat_ofNat']

/-- What a copy of k bytes from so far back makes of what has come out. -/
def copyOut (off : Nat) : Nat → List UInt8 → List UInt8
  | 0, o => o
  | k + 1, o => copyOut off k (o ++ [o.getD (o.length - off) 0])

theorem copyOut_length (off : Nat) : ∀ (k : Nat) (o : List UInt8), (copyOut off k o).length = o.length + k
  | 0, o => by simp [copyOut]
  | k + 1, o => by rw [copyOut, copyOut_length off k]; simp; omega

theorem copyOut_add (off : Nat) : ∀ (a b : Nat) (o : List UInt8), copyOut off (a + b) o = copyOut off b (copyOut off a o)
  | 0, b, o => by simp [copyOut]
  | a + 1, b, o => by
    rw [show a + 1 + b = (a + b) + 1 from by omega, copyOut, copyOut, copyOut_add off a b]

theorem copyOut_snoc (off k : Nat) (o : List UInt8) : copyOut off (k + 1) o = copyOut off k o ++ [(copyOut off k o).getD (o.length + k - off) 0] := by
  rw [copyOut_add off k 1 o]
  show copyOut off 0 _ = _
  rw [copyOut_length]
  rfl

theorem take_snoc (src : List UInt8) (s : Nat) (h : s < src.length) : src.take (s + 1) = src.take s ++ [src.getD s 0] := by
  rw [List.take_succ_eq_append_getElem h]
  simp [List.getD_eq_getElem?_getD, h]

/-- A copy within a text whose bytes agree at the distance gives the text itself. -/
theorem copyOut_take (src : List UInt8) (s off : Nat) (h1 : 1 ≤ off) (h2 : off ≤ s) : ∀ (k : Nat), s + k ≤ src.length →
    (∀ j, j < k → src.getD (s - off + j) 0 = src.getD (s + j) 0) → copyOut off k (src.take s) = src.take (s + k)
  | 0, _, _ => by simp [copyOut]
  | k + 1, hk, hm => by
    rw [copyOut_snoc, copyOut_take src s off h1 h2 k (by omega) (fun j hj => hm j (by omega)), show s + (k + 1) = (s + k) + 1 from by omega, take_snoc src (s + k) (by omega)]
    congr 2
    have e : (src.take s).length = s := by rw [List.length_take]; omega
    rw [e, ← hm k (by omega), List.getD_eq_getElem?_getD, List.getD_eq_getElem?_getD, List.getElem?_take, if_pos (by omega)]
    congr 2
    omega

/-- The head of a literal of n + 1 bytes. -/
def litHdr (n : Nat) : List UInt8 := if n < 60 then [b8 (n * 4)] else if n < 256 then [240, b8 n] else [244, b8 n, b8 (n / 256)]
def litB (L : List UInt8) : List UInt8 := litHdr (L.length - 1) ++ L
def cop3 (off k : Nat) : List UInt8 := [b8 ((k - 1) * 4 + 2), b8 off, b8 (off / 256)]
def cop2 (off k : Nat) : List UInt8 := [b8 (off / 256 * 32 + (k - 4) * 4 + 1), b8 off]
def copLast (off k : Nat) : List UInt8 := if 12 ≤ k ∨ 2048 ≤ off then cop3 off k else cop2 off k
def copTail (off k : Nat) : List UInt8 := if 64 < k then cop3 off 60 ++ copLast off (k - 60) else copLast off k
def copB (off k : Nat) : List UInt8 := if 68 ≤ k then cop3 off 64 ++ copB off (k - 64) else copTail off k
termination_by k
decreasing_by omega

theorem copB_big (off k : Nat) (h : 68 ≤ k) : copB off k = cop3 off 64 ++ copB off (k - 64) := by rw [copB, if_pos h]
theorem copB_small (off k : Nat) (h : k < 68) : copB off k = copTail off k := by rw [copB, if_neg (by omega)]

theorem litHdr_length (n : Nat) : (litHdr n).length = if n < 60 then 1 else if n < 256 then 2 else 3 := by
  unfold litHdr
  split
  · rfl
  · split <;> rfl
theorem litB_length (L : List UInt8) : (litB L).length = L.length + if L.length - 1 < 60 then 1 else if L.length - 1 < 256 then 2 else 3 := by
  unfold litB
  rw [List.length_append, litHdr_length]
  omega
theorem litB_le (L : List UInt8) : (litB L).length ≤ L.length + 3 := by
  rw [litB_length]
  split
  · omega
  · split <;> omega
/-- A literal costs little: the sum that the bound is made of. -/
theorem litB_cost (L : List UInt8) (h : 1 ≤ L.length) : 6 * (litB L).length ≤ 7 * L.length + 5 := by
  rw [litB_length]
  split
  · omega
  · split <;> omega

theorem cop3_length (off k : Nat) : (cop3 off k).length = 3 := rfl
theorem cop2_length (off k : Nat) : (cop2 off k).length = 2 := rfl
theorem copLast_length (off k : Nat) : (copLast off k).length ≤ 3 ∧ 2 ≤ (copLast off k).length := by
  unfold copLast
  split <;> simp [cop3, cop2]
theorem copTail_cost (off k : Nat) (h : 4 ≤ k) : (copTail off k).length + 1 ≤ k := by
  unfold copTail
  split
  · have := (copLast_length off (k - 60)).1
    rw [List.length_append, cop3_length]
    omega
  · have := (copLast_length off k).1
    omega
theorem copB_cost (off : Nat) (k : Nat) (h : 4 ≤ k) : (copB off k).length + 1 ≤ k := by
  induction k using Nat.strongRecOn with
  | _ k ih =>
    by_cases h68 : 68 ≤ k
    · rw [copB_big off k h68, List.length_append, cop3_length]
      have := ih (k - 64) (by omega) (by omega)
      omega
    · rw [copB_small off k (by omega)]
      exact copTail_cost off k h

/-- ONE ELEMENT: its bytes, what had come out before it, what has come out behind it. -/
inductive El : List UInt8 → List UInt8 → List UInt8 → Prop
  | lit (L o : List UInt8) (h1 : 1 ≤ L.length) (h2 : L.length ≤ 65536) : El (litB L) o (o ++ L)
  | c2 (off k : Nat) (o : List UInt8) (h1 : 4 ≤ k) (h2 : k < 12) (h3 : 1 ≤ off) (h4 : off < 2048) (h5 : off ≤ o.length) : El (cop2 off k) o (copyOut off k o)
  | c3 (off k : Nat) (o : List UInt8) (h1 : 1 ≤ k) (h2 : k ≤ 64) (h3 : 1 ≤ off) (h4 : off ≤ 65535) (h5 : off ≤ o.length) : El (cop3 off k) o (copyOut off k o)

/-- A ROW OF ELEMENTS. -/
inductive Steps : List UInt8 → List UInt8 → List UInt8 → Prop
  | nil (o : List UInt8) : Steps [] o o
  | cons {c o o1 r o2 : List UInt8} (h : El c o o1) (t : Steps r o1 o2) : Steps (c ++ r) o o2

theorem Steps.one {c o o1 : List UInt8} (h : El c o o1) : Steps c o o1 := by
  have := Steps.cons h (Steps.nil o1)
  simpa using this
theorem Steps.trans {c o o1 r o2 : List UInt8} (h : Steps c o o1) (t : Steps r o1 o2) : Steps (c ++ r) o o2 := by
  induction h with
  | nil => simpa using t
  | cons hE _ ih =>
    rw [List.append_assoc]
    exact Steps.cons hE (ih t)

theorem copLast_steps (off k : Nat) (o : List UInt8) (h1 : 4 ≤ k) (h2 : k ≤ 64) (h3 : 1 ≤ off) (h4 : off ≤ 65535) (h5 : off ≤ o.length) : Steps (copLast off k) o (copyOut off k o) := by
  unfold copLast
  split
  · exact Steps.one (El.c3 off k o (by omega) h2 h3 h4 h5)
  · exact Steps.one (El.c2 off k o h1 (by omega) h3 (by omega) h5)
theorem copTail_steps (off k : Nat) (o : List UInt8) (h1 : 4 ≤ k) (h2 : k < 68) (h3 : 1 ≤ off) (h4 : off ≤ 65535) (h5 : off ≤ o.length) : Steps (copTail off k) o (copyOut off k o) := by
  unfold copTail
  split
  · have e : copyOut off k o = copyOut off (k - 60) (copyOut off 60 o) := by
      rw [← copyOut_add]
      congr 1
      omega
    rw [e]
    exact Steps.cons (El.c3 off 60 o (by omega) (by omega) h3 h4 h5) (copLast_steps off (k - 60) _ (by omega) (by omega) h3 h4 (by rw [copyOut_length]; omega))
  · exact copLast_steps off k o h1 (by omega) h3 h4 h5
theorem copB_steps (off : Nat) (h3 : 1 ≤ off) (h4 : off ≤ 65535) (k : Nat) : ∀ (o : List UInt8), 4 ≤ k → off ≤ o.length → Steps (copB off k) o (copyOut off k o) := by
  induction k using Nat.strongRecOn with
  | _ k ih =>
    intro o h1 h5
    by_cases h68 : 68 ≤ k
    · rw [copB_big off k h68]
      have e : copyOut off k o = copyOut off (k - 64) (copyOut off 64 o) := by
        rw [← copyOut_add]
        congr 1
        omega
      rw [e]
      exact Steps.cons (El.c3 off 64 o (by omega) (by omega) h3 h4 h5) (ih (k - 64) (by omega) _ (by omega) (by rw [copyOut_length]; omega))
    · rw [copB_small off k (by omega)]
      exact copTail_steps off k o h1 (by omega) h3 h4 h5

theorem litB_steps (L o : List UInt8) (h1 : 1 ≤ L.length) (h2 : L.length ≤ 65536) : Steps (litB L) o (o ++ L) := Steps.one (El.lit L o h1 h2)

/-- What has come out only grows. -/
theorem El.grows {c o o1 : List UInt8} (h : El c o o1) : ∃ t, o1 = o ++ t ∧ 1 ≤ t.length := by
  have hc : ∀ off k (o : List UInt8), ∃ t, copyOut off k o = o ++ t ∧ t.length = k := by
    intro off k o
    induction k generalizing o with
    | zero => exact ⟨[], by simp [copyOut], rfl⟩
    | succ k ih =>
      obtain ⟨t, ht, hl⟩ := ih (o ++ [o.getD (o.length - off) 0])
      exact ⟨[o.getD (o.length - off) 0] ++ t, by rw [copyOut, ht, List.append_assoc], by simp [hl]⟩
  cases h with
  | lit L o h1 h2 => exact ⟨L, rfl, h1⟩
  | c2 off k o h1 _ _ _ _ =>
    obtain ⟨t, ht, hl⟩ := hc off k o
    exact ⟨t, ht, by omega⟩
  | c3 off k o h1 _ _ _ _ =>
    obtain ⟨t, ht, hl⟩ := hc off k o
    exact ⟨t, ht, by omega⟩
theorem Steps.grows {c o o1 : List UInt8} (h : Steps c o o1) : ∃ t, o1 = o ++ t := by
  induction h with
  | nil o => exact ⟨[], by simp⟩
  | cons hE _ ih =>
    obtain ⟨t, ht, _⟩ := hE.grows
    obtain ⟨u, hu⟩ := ih
    exact ⟨t ++ u, by rw [hu, ht, List.append_assoc]⟩
theorem Steps.le {c o o1 : List UInt8} (h : Steps c o o1) : o.length ≤ o1.length := by
  obtain ⟨t, rfl⟩ := h.grows
  simp

/-- The four bytes at a place, as one number, the least first. -/
def le4 (a b c d : UInt8) : Nat := a.toNat + b.toNat * 256 + c.toNat * 65536 + d.toNat * 16777216
theorem le4_inj {a b c d a' b' c' d' : UInt8} (h : le4 a b c d = le4 a' b' c' d') : a = a' ∧ b = b' ∧ c = c' ∧ d = d' := by
  have h1 := a.toNat_lt
  have h2 := b.toNat_lt
  have h3 := c.toNat_lt
  have h4 := d.toNat_lt
  have h5 := a'.toNat_lt
  have h6 := b'.toNat_lt
  have h7 := c'.toNat_lt
  have h8 := d'.toNat_lt
  unfold le4 at h
  exact ⟨UInt8.toNat_inj.1 (by omega), UInt8.toNat_inj.1 (by omega), UInt8.toNat_inj.1 (by omega), UInt8.toNat_inj.1 (by omega)⟩
def le32 (l : List UInt8) (i : Nat) : Nat := le4 (l.getD i 0) (l.getD (i + 1) 0) (l.getD (i + 2) 0) (l.getD (i + 3) 0)
theorem le32_inj {l : List UInt8} {i j : Nat} (h : le32 l i = le32 l j) : ∀ k, k < 4 → l.getD (i + k) 0 = l.getD (j + k) 0 := by
  obtain ⟨a, b, c, d⟩ := le4_inj h
  intro k hk
  rcases k with _ | _ | _ | _ | k
  · exact a
  · exact b
  · exact c
  · exact d
  · omega
theorem le32_lt (l : List UInt8) (i : Nat) : le32 l i < 4294967296 := by
  have h1 := (l.getD i 0).toNat_lt
  have h2 := (l.getD (i + 1) 0).toNat_lt
  have h3 := (l.getD (i + 2) 0).toNat_lt
  have h4 := (l.getD (i + 3) 0).toNat_lt
  unfold le32 le4
  omega
def le64 (l : List UInt8) (i : Nat) : Nat := le32 l i + le32 l (i + 4) * 4294967296
theorem le64_lt (l : List UInt8) (i : Nat) : le64 l i < 18446744073709551616 := by
  have h1 := le32_lt l i
  have h2 := le32_lt l (i + 4)
  unfold le64
  omega

/-- The length ahead of a block: seven bits a byte, the least first. -/
def uv (x : Nat) : List UInt8 := if h : x < 128 then [b8 x] else b8 (x % 128 + 128) :: uv (x / 128)
termination_by x
decreasing_by omega
theorem uv_small {x : Nat} (h : x < 128) : uv x = [b8 x] := by rw [uv, dif_pos h]
theorem uv_big {x : Nat} (h : 128 ≤ x) : uv x = b8 (x % 128 + 128) :: uv (x / 128) := by rw [uv, dif_neg (by omega)]
theorem uv_pos (x : Nat) : 1 ≤ (uv x).length := by
  by_cases h : x < 128
  · rw [uv_small h]; simp
  · rw [uv_big (by omega)]; simp
theorem uv_le3 (x : Nat) (hx : x ≤ 40000) : (uv x).length ≤ 3 := by
  by_cases h : x < 128
  · rw [uv_small h]; simp
  · rw [uv_big (by omega)]
    by_cases h2 : x / 128 < 128
    · rw [uv_small h2]; simp
    · rw [uv_big (by omega), uv_small (x := x / 128 / 128) (by omega)]; simp

end Sn
end Go.Proofs.YtbhcdkbcbcmomaaDoor
