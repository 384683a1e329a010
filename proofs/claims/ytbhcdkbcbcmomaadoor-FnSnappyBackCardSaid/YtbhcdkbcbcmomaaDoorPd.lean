/- THE PLAIN LAW OF A STEP: what stands at the head of a row of elements, as a decoder meets it. No program in this text. -/
import Derived.Test.YtbhcdkbcbcmomaaDoorPure
namespace Go.Proofs.YtbhcdkbcbcmomaaDoor

/-- A literal's head: its first byte is f, the rest of it stands at p, k bytes follow from p2 on. -/
def LitHd (l : List UInt8) (p f k p2 : Nat) : Prop :=
  (f / 4 + 1 ≤ 60 ∧ k = f / 4 + 1 ∧ p2 = p) ∨ (f = 240 ∧ p2 = p + 1 ∧ k = (l.getD p 0).toNat + 1) ∨ (f = 244 ∧ p2 = p + 2 ∧ k = (l.getD p 0).toNat + (l.getD (p + 1) 0).toNat * 256 + 1)

/-- A literal whose head stands at 'at', behind which q is. -/
def IsLit (l : List UInt8) (a f q : Nat) (out o1 : List UInt8) : Prop := f % 4 = 0 ∧ ∃ k p2, LitHd l (a + 1) f k p2 ∧ 1 ≤ k ∧ p2 + k = q ∧ o1 = out ++ (l.drop p2).take k
def IsC2 (l : List UInt8) (a f q : Nat) (out o1 : List UInt8) : Prop := f % 4 = 1 ∧ q = a + 2 ∧ ∃ off k, 4 ≤ k ∧ k < 12 ∧ 1 ≤ off ∧ off < 2048 ∧ off ≤ out.length ∧ f = off / 256 * 32 + (k - 4) * 4 + 1 ∧ (l.getD (a + 1) 0).toNat = off % 256 ∧ o1 = Sn.copyOut off k out
def IsC3 (l : List UInt8) (a f q : Nat) (out o1 : List UInt8) : Prop := f % 4 = 2 ∧ q = a + 3 ∧ ∃ off k, 1 ≤ k ∧ k ≤ 64 ∧ 1 ≤ off ∧ off ≤ 65535 ∧ off ≤ out.length ∧ f = (k - 1) * 4 + 2 ∧ (l.getD (a + 1) 0).toNat = off % 256 ∧ (l.getD (a + 1 + 1) 0).toNat = off / 256 ∧ o1 = Sn.copyOut off k out

theorem getD_drop (l : List UInt8) (a i : Nat) : (l.drop a).getD i 0 = l.getD (a + i) 0 := by
  rw [List.getD_eq_getElem?_getD, List.getD_eq_getElem?_getD, List.getElem?_drop]

theorem drop_more (l : List UInt8) (a : Nat) (x y : List UInt8) (h : l.drop a = x ++ y) : l.drop (a + x.length) = y := by
  rw [← List.drop_drop, h, List.drop_left]

theorem step_of (l : List UInt8) (a : Nat) (out src : List UInt8) (hal : a < l.length) (hst : Sn.Steps (l.drop a) out src) :
    ∃ f q o1, f = (l.getD a 0).toNat ∧ f < 256 ∧ a < q ∧ q ≤ l.length ∧ Sn.Steps (l.drop q) o1 src ∧ (IsLit l a f q out o1 ∨ IsC2 l a f q out o1 ∨ IsC3 l a f q out o1) := by
  have key : ∀ rest o, Sn.Steps rest o src → rest = l.drop a → o = out → ∃ f q o1, f = (l.getD a 0).toNat ∧ f < 256 ∧ a < q ∧ q ≤ l.length ∧ Sn.Steps (l.drop q) o1 src ∧ (IsLit l a f q out o1 ∨ IsC2 l a f q out o1 ∨ IsC3 l a f q out o1) := by
    intro rest o hs hr ho
    cases hs with
    | nil =>
      have : (l.drop a).length = 0 := by rw [← hr]; rfl
      rw [List.length_drop] at this
      omega
    | cons hE ht =>
      rename_i c o1 r
      subst ho
      have hr' : l.drop a = c ++ r := hr.symm
      have hlen : l.length = a + (c ++ r).length := by
        rw [← hr', List.length_drop]
        omega
      have hq : l.drop (a + c.length) = r := drop_more l a c r hr'
      rw [List.length_append] at hlen
      have hb : ∀ i, l.getD (a + i) 0 = (c ++ r).getD i 0 := fun i => by rw [← hr', getD_drop]
      have hlt : (l.getD a 0).toNat < 256 := UInt8.toNat_lt _
      cases hE with
      | lit L _ h1 h2 =>
        have hL : (Sn.litB L).length = (Sn.litHdr (L.length - 1)).length + L.length := by unfold Sn.litB; rw [List.length_append]
        have hpos : 1 ≤ (Sn.litHdr (L.length - 1)).length := by
          rw [Sn.litHdr_length]
          split
          · omega
          · split <;> omega
        refine ⟨_, a + (Sn.litB L).length, _, rfl, hlt, by omega, by omega, by rw [hq]; exact ht, .inl ?_⟩
        have hsplit : l.drop a = Sn.litHdr (L.length - 1) ++ (L ++ r) := by rw [hr']; unfold Sn.litB; rw [List.append_assoc]
        have hp2 := drop_more l a _ _ hsplit
        have htake : ∀ p2, p2 = a + (Sn.litHdr (L.length - 1)).length → (l.drop p2).take L.length = L := by
          intro p2 e
          rw [e, hp2, List.take_left]
        have hb2 : ∀ i, l.getD (a + i) 0 = (Sn.litHdr (L.length - 1) ++ (L ++ r)).getD i 0 := fun i => by rw [← hsplit, getD_drop]
        have hb0 := hb2 0
        rw [Nat.add_zero] at hb0
        by_cases h60 : L.length - 1 < 60
        · have e : Sn.litHdr (L.length - 1) = [Sn.b8 ((L.length - 1) * 4)] := by unfold Sn.litHdr; rw [if_pos h60]
          rw [e] at hb0 htake hL
          have hf : (l.getD a 0).toNat = (L.length - 1) * 4 := by
            rw [hb0]
            show (Sn.b8 ((L.length - 1) * 4)).toNat = _
            rw [Sn.b8_toNat]
            omega
          rw [hf]
          refine ⟨by omega, L.length, a + 1, .inl ⟨by omega, by omega, rfl⟩, h1, ?_, by rw [htake (a + 1) rfl]⟩
          rw [hL]
          simp
          omega
        · by_cases h256 : L.length - 1 < 256
          · have e : Sn.litHdr (L.length - 1) = [240, Sn.b8 (L.length - 1)] := by unfold Sn.litHdr; rw [if_neg h60, if_pos h256]
            have hb1 := hb2 1
            rw [e] at hb0 hb1 htake hL
            have hf : (l.getD a 0).toNat = 240 := by rw [hb0]; rfl
            have hx : (l.getD (a + 1) 0).toNat = L.length - 1 := by
              rw [hb1]
              show (Sn.b8 (L.length - 1)).toNat = _
              rw [Sn.b8_toNat]
              omega
            rw [hf]
            refine ⟨by omega, L.length, a + 2, .inr (.inl ⟨rfl, rfl, by omega⟩), h1, ?_, by rw [htake (a + 2) rfl]⟩
            rw [hL]
            simp
            omega
          · have e : Sn.litHdr (L.length - 1) = [244, Sn.b8 (L.length - 1), Sn.b8 ((L.length - 1) / 256)] := by unfold Sn.litHdr; rw [if_neg h60, if_neg h256]
            have hb1 := hb2 1
            have hb3 := hb2 2
            rw [e] at hb0 hb1 hb3 htake hL
            have hf : (l.getD a 0).toNat = 244 := by rw [hb0]; rfl
            have hx : (l.getD (a + 1) 0).toNat = (L.length - 1) % 256 := by
              rw [hb1]
              show (Sn.b8 (L.length - 1)).toNat = _
              rw [Sn.b8_toNat]
            have hy : (l.getD (a + 1 + 1) 0).toNat = (L.length - 1) / 256 := by
              rw [show a + 1 + 1 = a + 2 from rfl, hb3]
              show (Sn.b8 ((L.length - 1) / 256)).toNat = _
              rw [Sn.b8_toNat]
              omega
            rw [hf]
            refine ⟨by omega, L.length, a + 3, .inr (.inr ⟨rfl, rfl, by omega⟩), h1, ?_, by rw [htake (a + 3) rfl]⟩
            rw [hL]
            simp
            omega
      | c2 off k _ g1 g2 g3 g4 g5 =>
        have hb0 := hb 0
        have hb1 := hb 1
        rw [Nat.add_zero] at hb0
        refine ⟨_, a + 2, _, rfl, hlt, by omega, by simp [Sn.cop2] at hlen; omega, by rw [show a + 2 = a + (Sn.cop2 off k).length from rfl, hq]; exact ht, .inr (.inl ?_)⟩
        have hf : (l.getD a 0).toNat = off / 256 * 32 + (k - 4) * 4 + 1 := by
          rw [hb0]
          show (Sn.b8 (off / 256 * 32 + (k - 4) * 4 + 1)).toNat = _
          rw [Sn.b8_toNat]
          omega
        refine ⟨by omega, rfl, off, k, g1, g2, g3, g4, g5, hf, ?_, rfl⟩
        rw [hb1]
        show (Sn.b8 off).toNat = _
        rw [Sn.b8_toNat]
      | c3 off k _ g1 g2 g3 g4 g5 =>
        have hb0 := hb 0
        have hb1 := hb 1
        have hb2 := hb 2
        rw [Nat.add_zero] at hb0
        refine ⟨_, a + 3, _, rfl, hlt, by omega, by simp [Sn.cop3] at hlen; omega, by rw [show a + 3 = a + (Sn.cop3 off k).length from rfl, hq]; exact ht, .inr (.inr ?_)⟩
        have hf : (l.getD a 0).toNat = (k - 1) * 4 + 2 := by
          rw [hb0]
          show (Sn.b8 ((k - 1) * 4 + 2)).toNat = _
          rw [Sn.b8_toNat]
          omega
        refine ⟨by omega, rfl, off, k, g1, g2, g3, g4, g5, hf, ?_, ?_, rfl⟩
        · rw [hb1]
          show (Sn.b8 off).toNat = _
          rw [Sn.b8_toNat]
        · rw [show a + 1 + 1 = a + 2 from rfl, hb2]
          show (Sn.b8 (off / 256)).toNat = _
          rw [Sn.b8_toNat]
          omega
  exact key _ _ hst rfl rfl

theorem El_pos {c o o1 : List UInt8} (h : Sn.El c o o1) : 1 ≤ c.length := by
  cases h with
  | lit L _ h1 h2 => rw [Sn.litB_length]; omega
  | c2 off k _ g1 g2 g3 g4 g5 => simp [Sn.cop2]
  | c3 off k _ g1 g2 g3 g4 g5 => simp [Sn.cop3]

theorem steps_nil {o src : List UInt8} (h : Sn.Steps [] o src) : o = src := by
  have key : ∀ rest o, Sn.Steps rest o src → rest = [] → o = src := by
    intro rest o hs hr
    cases hs with
    | nil => rfl
    | cons hE ht =>
      have h1 := El_pos hE
      have h2 := congrArg List.length hr
      rw [List.length_append, List.length_nil] at h2
      omega
  exact key _ _ h rfl

end Go.Proofs.YtbhcdkbcbcmomaaDoor
