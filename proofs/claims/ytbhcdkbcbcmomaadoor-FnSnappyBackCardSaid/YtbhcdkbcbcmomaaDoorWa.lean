/- WALKS, the first text: hash, load32, load64, MaxEncodedLen. -/
import Derived.Test.YtbhcdkbcbcmomaaDoorRows
import Derived.Test.YtbhcdkbcbcmomaaDoorBlk
import Derived.WalkKit
import Derived.WalkSpells
import Derived.WalkLawsBesides
import Derived.Deep.QuietTactic
import Derived.BigQuiet
import Derived.Lib.Hide
import Derived.Lib.EndianBits
namespace Go.Proofs.YtbhcdkbcbcmomaaDoor
open Go.RowKit

theorem ret_int {k : IntKind} {a b : Int} (h : a = b) : Ending.returned (.int k a) = .returned (.int k b) := by rw [h]

/-- some uint32 -/
def IsU32 (e : Ending) : Prop := ∃ h : Nat, h < 4294967296 ∧ e = .returned (.int .u32 (h : Int))

set_option maxHeartbeats 400000 in
theorem hash_any (u s : Nat) (_hu : u < 4294967296) (hs : s < 32) (w : World) :
    Calls Tryd.prog 23 #[.int .u32 (u : Int), .int .u32 (s : Int)] w fun e w' => IsU32 e ∧ w = w' := by
  go_enter Tryd.func23, Tryd.ntmps23
  go_wp2
  go_ret
  refine ⟨⟨u * 506832829 % 4294967296 / 2 ^ s, ?_, ?_⟩, rfl⟩
  · exact Nat.lt_of_le_of_lt (Nat.div_le_self _ _) (Nat.mod_lt _ (by omega))
  · simp

theorem or4 (a0 a1 a2 a3 : Int) (h0 : 0 ≤ a0 ∧ a0 < 256) (h1 : 0 ≤ a1 ∧ a1 < 256) (h2 : 0 ≤ a2 ∧ a2 < 256) (h3 : 0 ≤ a3 ∧ a3 < 256) :
    bits .or .u32 (bits .or .u32 (bits .or .u32 a0 (a1 * 256)) (a2 * 65536)) (a3 * 16777216) = a0 + a1 * 256 + a2 * 65536 + a3 * 16777216 := by
  rw [u32_or8 a0 (a1 * 256) (by omega) (by omega) (by omega) (by omega) (by omega), u32_or16 (a0 + a1 * 256) (a2 * 65536) (by omega) (by omega) (by omega) (by omega) (by omega),
    u32_or24 (a0 + a1 * 256 + a2 * 65536) (a3 * 16777216) (by omega) (by omega) (by omega) (by omega) (by omega)]

theorem or8 (a0 a1 a2 a3 a4 a5 a6 a7 : Int) (h0 : 0 ≤ a0 ∧ a0 < 256) (h1 : 0 ≤ a1 ∧ a1 < 256) (h2 : 0 ≤ a2 ∧ a2 < 256) (h3 : 0 ≤ a3 ∧ a3 < 256)
    (h4 : 0 ≤ a4 ∧ a4 < 256) (h5 : 0 ≤ a5 ∧ a5 < 256) (h6 : 0 ≤ a6 ∧ a6 < 256) (h7 : 0 ≤ a7 ∧ a7 < 256) :
    bits .or .u64 (bits .or .u64 (bits .or .u64 (bits .or .u64 (bits .or .u64 (bits .or .u64 (bits .or .u64 a0 (a1 * 256)) (a2 * 65536)) (a3 * 16777216)) (a4 * 4294967296)) (a5 * 1099511627776)) (a6 * 281474976710656)) (a7 * 72057594037927936)
      = a0 + a1 * 256 + a2 * 65536 + a3 * 16777216 + a4 * 4294967296 + a5 * 1099511627776 + a6 * 281474976710656 + a7 * 72057594037927936 := by
  rw [u64_or8 a0 (a1 * 256) (by omega) (by omega) (by omega) (by omega) (by omega), u64_or16 (a0 + a1 * 256) (a2 * 65536) (by omega) (by omega) (by omega) (by omega) (by omega),
    u64_or24 (a0 + a1 * 256 + a2 * 65536) (a3 * 16777216) (by omega) (by omega) (by omega) (by omega) (by omega),
    u64_or32 (a0 + a1 * 256 + a2 * 65536 + a3 * 16777216) (a4 * 4294967296) (by omega) (by omega) (by omega) (by omega) (by omega),
    u64_or40 (a0 + a1 * 256 + a2 * 65536 + a3 * 16777216 + a4 * 4294967296) (a5 * 1099511627776) (by omega) (by omega) (by omega) (by omega) (by omega),
    u64_or48 (a0 + a1 * 256 + a2 * 65536 + a3 * 16777216 + a4 * 4294967296 + a5 * 1099511627776) (a6 * 281474976710656) (by omega) (by omega) (by omega) (by omega) (by omega),
    u64_or56 (a0 + a1 * 256 + a2 * 65536 + a3 * 16777216 + a4 * 4294967296 + a5 * 1099511627776 + a6 * 281474976710656) (a7 * 72057594037927936) (by omega) (by omega) (by omega) (by omega) (by omega)]

set_option maxHeartbeats 400000 in
theorem load32_core (b o n c i a0 a1 a2 a3 : Nat) (w : World) (hi : i + 4 ≤ n) (hn : n ≤ c) (hc : c ≤ 9223372036854775807) (h0 : a0 < 256) (h1 : a1 < 256) (h2 : a2 < 256) (h3 : a3 < 256)
    (c0 : w.cell? ⟨b, o + i, none⟩ = some (.int .u8 (a0 : Int))) (c1 : w.cell? ⟨b, o + i + 1, none⟩ = some (.int .u8 (a1 : Int)))
    (c2 : w.cell? ⟨b, o + i + 2, none⟩ = some (.int .u8 (a2 : Int))) (c3 : w.cell? ⟨b, o + i + 3, none⟩ = some (.int .u8 (a3 : Int))) :
    Calls Tryd.prog 24 #[.slice (some ⟨b, o, none⟩) n c, .int .i64 (i : Int)] w fun e w' => e = .returned (.int .u32 ((a0 + a1 * 256 + a2 * 65536 + a3 * 16777216 : Nat) : Int)) ∧ ∃ nq, w' = w.drewN nq := by
  go_enter Tryd.func24, Tryd.ntmps24
  go_wp2
  go_quiet (fail)
  go_wp2
  go_ret
  refine ⟨ret_int ?_, nq, rfl⟩
  rw [or4 _ _ _ _ (by omega) (by omega) (by omega) (by omega)]
  omega

set_option maxHeartbeats 800000 in
theorem load64_core (b o n c i a0 a1 a2 a3 a4 a5 a6 a7 : Nat) (w : World) (hi : i + 8 ≤ n) (hn : n ≤ c) (hc : c ≤ 9223372036854775807) (h0 : a0 < 256) (h1 : a1 < 256) (h2 : a2 < 256) (h3 : a3 < 256)
    (h4 : a4 < 256) (h5 : a5 < 256) (h6 : a6 < 256) (h7 : a7 < 256)
    (c0 : w.cell? ⟨b, o + i, none⟩ = some (.int .u8 (a0 : Int))) (c1 : w.cell? ⟨b, o + i + 1, none⟩ = some (.int .u8 (a1 : Int)))
    (c2 : w.cell? ⟨b, o + i + 2, none⟩ = some (.int .u8 (a2 : Int))) (c3 : w.cell? ⟨b, o + i + 3, none⟩ = some (.int .u8 (a3 : Int)))
    (c4 : w.cell? ⟨b, o + i + 4, none⟩ = some (.int .u8 (a4 : Int))) (c5 : w.cell? ⟨b, o + i + 5, none⟩ = some (.int .u8 (a5 : Int)))
    (c6 : w.cell? ⟨b, o + i + 6, none⟩ = some (.int .u8 (a6 : Int))) (c7 : w.cell? ⟨b, o + i + 7, none⟩ = some (.int .u8 (a7 : Int))) :
    Calls Tryd.prog 26 #[.slice (some ⟨b, o, none⟩) n c, .int .i64 (i : Int)] w fun e w' =>
      e = .returned (.int .u64 ((a0 + a1 * 256 + a2 * 65536 + a3 * 16777216 + a4 * 4294967296 + a5 * 1099511627776 + a6 * 281474976710656 + a7 * 72057594037927936 : Nat) : Int)) ∧ ∃ nq, w' = w.drewN nq := by
  go_enter Tryd.func26, Tryd.ntmps26
  go_wp2
  go_quiet (fail)
  go_wp2
  go_ret
  refine ⟨ret_int ?_, nq, rfl⟩
  rw [or8 _ _ _ _ _ _ _ _ (by omega) (by omega) (by omega) (by omega) (by omega) (by omega) (by omega) (by omega)]
  omega


set_option maxHeartbeats 400000 in
theorem most_any (n : Nat) (w : World) (hn : n ≤ 100000) :
    Calls Tryd.prog 15 #[.int .i64 (n : Int)] w fun e w' => e = .returned (.int .i64 ((32 + n + n / 6 : Nat) : Int)) ∧ w = w' := by
  go_enter Tryd.func15, Tryd.ntmps15
  go_wp2
  go_ret
  exact ⟨ret_int (by omega), rfl⟩

/-- The bytes l lie in block b from o on. -/
def Src (w : World) (b o : Nat) (l : List UInt8) : Prop := ∀ j, j < l.length → w.cell? ⟨b, o + j, none⟩ = some (.int .u8 ((l.getD j 0).toNat : Int))

theorem load32_any (b o c i : Nat) (l : List UInt8) (w : World) (hs : Src w b o l) (hi : i + 4 ≤ l.length) (hn : l.length ≤ c) (hc : c ≤ 9223372036854775807) :
    Calls Tryd.prog 24 #[.slice (some ⟨b, o, none⟩) l.length c, .int .i64 (i : Int)] w fun e w' => e = .returned (.int .u32 (Sn.le32 l i : Int)) ∧ ∃ nq, w' = w.drewN nq :=
  load32_core b o l.length c i _ _ _ _ w hi hn hc (UInt8.toNat_lt _) (UInt8.toNat_lt _) (UInt8.toNat_lt _) (UInt8.toNat_lt _)
    (hs i (by omega)) (hs (i + 1) (by omega)) (hs (i + 2) (by omega)) (hs (i + 3) (by omega))

theorem le64_parts (l : List UInt8) (i : Nat) : Sn.le64 l i / 256 % 4294967296 = Sn.le32 l (i + 1) := by
  have h0 := (l.getD i 0).toNat_lt
  have h1 := (l.getD (i + 1) 0).toNat_lt
  have h2 := (l.getD (i + 2) 0).toNat_lt
  have h3 := (l.getD (i + 3) 0).toNat_lt
  have h4 := (l.getD (i + 4) 0).toNat_lt
  have h5 := (l.getD (i + 4 + 1) 0).toNat_lt
  have h6 := (l.getD (i + 4 + 2) 0).toNat_lt
  have h7 := (l.getD (i + 4 + 3) 0).toNat_lt
  unfold Sn.le64 Sn.le32 Sn.le4
  rw [show i + 1 + 1 = i + 2 from rfl, show i + 1 + 2 = i + 3 from rfl, show i + 1 + 3 = i + 4 from rfl]
  omega

theorem load64_any (b o c i : Nat) (l : List UInt8) (w : World) (hs : Src w b o l) (hi : i + 8 ≤ l.length) (hn : l.length ≤ c) (hc : c ≤ 9223372036854775807) :
    Calls Tryd.prog 26 #[.slice (some ⟨b, o, none⟩) l.length c, .int .i64 (i : Int)] w fun e w' => e = .returned (.int .u64 (Sn.le64 l i : Int)) ∧ ∃ nq, w' = w.drewN nq := by
  have h := load64_core b o l.length c i _ _ _ _ _ _ _ _ w hi hn hc (UInt8.toNat_lt _) (UInt8.toNat_lt _) (UInt8.toNat_lt _) (UInt8.toNat_lt _) (UInt8.toNat_lt _) (UInt8.toNat_lt _) (UInt8.toNat_lt _) (UInt8.toNat_lt _)
    (hs i (by omega)) (hs (i + 1) (by omega)) (hs (i + 2) (by omega)) (hs (i + 3) (by omega)) (hs (i + 4) (by omega)) (hs (i + 5) (by omega)) (hs (i + 6) (by omega)) (hs (i + 7) (by omega))
  refine h.mono fun e w' ⟨he, hw⟩ => ⟨?_, hw⟩
  rw [he]
  refine ret_int ?_
  unfold Sn.le64 Sn.le32 Sn.le4
  rw [show i + 4 + 1 = i + 5 from rfl, show i + 4 + 2 = i + 6 from rfl, show i + 4 + 3 = i + 7 from rfl]
  omega

theorem src_drewN {w : World} {bs os : Nat} {l : List UInt8} (h : Src w bs os l) (k : Nat) : Src (w.drewN k) bs os l := h
theorem src_drew {w : World} {bs os : Nat} {l : List UInt8} (h : Src w bs os l) : Src w.drew bs os l := h
theorem src_drop {w : World} {bs os : Nat} {l : List UInt8} (h : Src w bs os l) (k : Nat) : Src w bs (os + k) (l.drop k) := by
  intro j hj
  rw [List.length_drop] at hj
  have := h (k + j) (by omega)
  rw [← Nat.add_assoc] at this
  rw [this, List.getD_eq_getElem?_getD, List.getD_eq_getElem?_getD, List.getElem?_drop]
theorem src_take {w : World} {bs os : Nat} {l : List UInt8} (h : Src w bs os l) (k : Nat) : Src w bs os (l.take k) := by
  intro j hj
  rw [List.length_take] at hj
  have := h j (by omega)
  rw [this, List.getD_eq_getElem?_getD, List.getD_eq_getElem?_getD, List.getElem?_take, if_pos (by omega)]


end Go.Proofs.YtbhcdkbcbcmomaaDoor
