/- encodeBlock's frame at its label, and what is known of memory on the way. -/
import Derived.Test.YtbhcdkbcbcmomaaDoorTb
import Derived.Test.YtbhcdkbcbcmomaaDoorWc
import Derived.WalkMore
import Derived.ScopeJumps
import Derived.Deep.RegionWith
import Derived.Deep.DeepCutAuto
import Derived.Deep.CutBlock
namespace Go.Proofs.YtbhcdkbcbcmomaaDoor
open Go.RowKit

set_option maxRecDepth 1000000 in
def JFrame (v0 v1 v4 v9 : Value) (a : Act) : Prop := ∃ u2 u3 u5 u6 u7 u8 u10 u11 u12 u13 u14 u15 u16 u17 u18 u19 u20 u21 u22 u23 u24 u25 u26 u27 u28 u29 u30 u31 u32 u33 u34 u35 u36 u37 u38 u39 u40 u41 u42 u43 u44 u45 u46 u47 u48 u49 u50 u51 u52 u53 u54 u55 u56 u57 u58 u59 u60 u61 u62 u63 u64 u65 u66 u67 u68 u69 u70 u71 u72 u73 u74 u75 u76 u77 u78 u79 u80 u81 u82 u83 u84 u85 u86 u87 u88 u89 u90 u91 u92 u93 u94 u95 u96 u97 u98 u99 u100 u101 u102 u103 u104 u105 u106 u107 u108 u109 u110 u111 u112 u113 u114 u115 u116 u117 u118 u119 u120 u121 u122 u123 u124 u125 u126 u127 u128 u129 u130 u131 u132 u133 u134 u135 u136 u137 u138 u139 u140 u141 u142 u143 u144 u145 u146 u147 u148 u149 u150 u151 u152 u153 u154 u155 u156 u157 u158 u159 u160 u161 u162 u163 u164 u165 u166 u167 u168 u169 u170 u171 u172 u173 u174 u175 u176 u177 u178 u179 u180 u181 u182 u183 : Value, a = { tmps := List.toArray (v0 :: v1 :: u2 :: u3 :: v4 :: u5 :: u6 :: u7 :: u8 :: v9 :: u10 :: u11 :: u12 :: u13 :: u14 :: u15 :: u16 :: u17 :: u18 :: u19 :: u20 :: u21 :: u22 :: u23 :: u24 :: u25 :: u26 :: u27 :: u28 :: u29 :: u30 :: u31 :: u32 :: u33 :: u34 :: u35 :: u36 :: u37 :: u38 :: u39 :: u40 :: u41 :: u42 :: u43 :: u44 :: u45 :: u46 :: u47 :: u48 :: u49 :: u50 :: u51 :: u52 :: u53 :: u54 :: u55 :: u56 :: u57 :: u58 :: u59 :: u60 :: u61 :: u62 :: u63 :: u64 :: u65 :: u66 :: u67 :: u68 :: u69 :: u70 :: u71 :: u72 :: u73 :: u74 :: u75 :: u76 :: u77 :: u78 :: u79 :: u80 :: u81 :: u82 :: u83 :: u84 :: u85 :: u86 :: u87 :: u88 :: u89 :: u90 :: u91 :: u92 :: u93 :: u94 :: u95 :: u96 :: u97 :: u98 :: u99 :: u100 :: u101 :: u102 :: u103 :: u104 :: u105 :: u106 :: u107 :: u108 :: u109 :: u110 :: u111 :: u112 :: u113 :: u114 :: u115 :: u116 :: u117 :: u118 :: u119 :: u120 :: u121 :: u122 :: u123 :: u124 :: u125 :: u126 :: u127 :: u128 :: u129 :: u130 :: u131 :: u132 :: u133 :: u134 :: u135 :: u136 :: u137 :: u138 :: u139 :: u140 :: u141 :: u142 :: u143 :: u144 :: u145 :: u146 :: u147 :: u148 :: u149 :: u150 :: u151 :: u152 :: u153 :: u154 :: u155 :: u156 :: u157 :: u158 :: u159 :: u160 :: u161 :: u162 :: u163 :: u164 :: u165 :: u166 :: u167 :: u168 :: u169 :: u170 :: u171 :: u172 :: u173 :: u174 :: u175 :: u176 :: u177 :: u178 :: u179 :: u180 :: u181 :: u182 :: u183 :: []), defers := [] }

set_option maxRecDepth 1000000 in
theorem JFrame_mk {v0 v1 v4 v9 u2 u3 u5 u6 u7 u8 u10 u11 u12 u13 u14 u15 u16 u17 u18 u19 u20 u21 u22 u23 u24 u25 u26 u27 u28 u29 u30 u31 u32 u33 u34 u35 u36 u37 u38 u39 u40 u41 u42 u43 u44 u45 u46 u47 u48 u49 u50 u51 u52 u53 u54 u55 u56 u57 u58 u59 u60 u61 u62 u63 u64 u65 u66 u67 u68 u69 u70 u71 u72 u73 u74 u75 u76 u77 u78 u79 u80 u81 u82 u83 u84 u85 u86 u87 u88 u89 u90 u91 u92 u93 u94 u95 u96 u97 u98 u99 u100 u101 u102 u103 u104 u105 u106 u107 u108 u109 u110 u111 u112 u113 u114 u115 u116 u117 u118 u119 u120 u121 u122 u123 u124 u125 u126 u127 u128 u129 u130 u131 u132 u133 u134 u135 u136 u137 u138 u139 u140 u141 u142 u143 u144 u145 u146 u147 u148 u149 u150 u151 u152 u153 u154 u155 u156 u157 u158 u159 u160 u161 u162 u163 u164 u165 u166 u167 u168 u169 u170 u171 u172 u173 u174 u175 u176 u177 u178 u179 u180 u181 u182 u183 : Value} : JFrame v0 v1 v4 v9 { tmps := List.toArray (v0 :: v1 :: u2 :: u3 :: v4 :: u5 :: u6 :: u7 :: u8 :: v9 :: u10 :: u11 :: u12 :: u13 :: u14 :: u15 :: u16 :: u17 :: u18 :: u19 :: u20 :: u21 :: u22 :: u23 :: u24 :: u25 :: u26 :: u27 :: u28 :: u29 :: u30 :: u31 :: u32 :: u33 :: u34 :: u35 :: u36 :: u37 :: u38 :: u39 :: u40 :: u41 :: u42 :: u43 :: u44 :: u45 :: u46 :: u47 :: u48 :: u49 :: u50 :: u51 :: u52 :: u53 :: u54 :: u55 :: u56 :: u57 :: u58 :: u59 :: u60 :: u61 :: u62 :: u63 :: u64 :: u65 :: u66 :: u67 :: u68 :: u69 :: u70 :: u71 :: u72 :: u73 :: u74 :: u75 :: u76 :: u77 :: u78 :: u79 :: u80 :: u81 :: u82 :: u83 :: u84 :: u85 :: u86 :: u87 :: u88 :: u89 :: u90 :: u91 :: u92 :: u93 :: u94 :: u95 :: u96 :: u97 :: u98 :: u99 :: u100 :: u101 :: u102 :: u103 :: u104 :: u105 :: u106 :: u107 :: u108 :: u109 :: u110 :: u111 :: u112 :: u113 :: u114 :: u115 :: u116 :: u117 :: u118 :: u119 :: u120 :: u121 :: u122 :: u123 :: u124 :: u125 :: u126 :: u127 :: u128 :: u129 :: u130 :: u131 :: u132 :: u133 :: u134 :: u135 :: u136 :: u137 :: u138 :: u139 :: u140 :: u141 :: u142 :: u143 :: u144 :: u145 :: u146 :: u147 :: u148 :: u149 :: u150 :: u151 :: u152 :: u153 :: u154 :: u155 :: u156 :: u157 :: u158 :: u159 :: u160 :: u161 :: u162 :: u163 :: u164 :: u165 :: u166 :: u167 :: u168 :: u169 :: u170 :: u171 :: u172 :: u173 :: u174 :: u175 :: u176 :: u177 :: u178 :: u179 :: u180 :: u181 :: u182 :: u183 :: []), defers := [] } :=
  ⟨u2, u3, u5, u6, u7, u8, u10, u11, u12, u13, u14, u15, u16, u17, u18, u19, u20, u21, u22, u23, u24, u25, u26, u27, u28, u29, u30, u31, u32, u33, u34, u35, u36, u37, u38, u39, u40, u41, u42, u43, u44, u45, u46, u47, u48, u49, u50, u51, u52, u53, u54, u55, u56, u57, u58, u59, u60, u61, u62, u63, u64, u65, u66, u67, u68, u69, u70, u71, u72, u73, u74, u75, u76, u77, u78, u79, u80, u81, u82, u83, u84, u85, u86, u87, u88, u89, u90, u91, u92, u93, u94, u95, u96, u97, u98, u99, u100, u101, u102, u103, u104, u105, u106, u107, u108, u109, u110, u111, u112, u113, u114, u115, u116, u117, u118, u119, u120, u121, u122, u123, u124, u125, u126, u127, u128, u129, u130, u131, u132, u133, u134, u135, u136, u137, u138, u139, u140, u141, u142, u143, u144, u145, u146, u147, u148, u149, u150, u151, u152, u153, u154, u155, u156, u157, u158, u159, u160, u161, u162, u163, u164, u165, u166, u167, u168, u169, u170, u171, u172, u173, u174, u175, u176, u177, u178, u179, u180, u181, u182, u183, rfl⟩

/-- What is known of memory while a block is encoded: cb, d bytes, has been laid for the first ne bytes of l; table entries lie below b. -/
def EncSt (w0 : World) (g off tb : Nat) (cur : List Value) (l cb : List UInt8) (d ne b slack : Nat) (w : World) : Prop :=
  cb.length = d ∧ Sn.Steps cb [] (l.take ne) ∧ 6 * d ≤ 7 * ne + slack ∧ Blk w g 5 (splice cur off (bv cb)) ∧ w0.grownBy w (some g) ∧ Tab w tb b

/-- encodeBlock's end -/
def BlockEnd (w0 : World) (g off : Nat) (cur : List Value) (l : List UInt8) (e : Ending) (w : World) : Prop :=
  ∃ cb : List UInt8, e = .returned (.int .i64 (cb.length : Int)) ∧ Sn.Steps cb [] l ∧ 6 * cb.length ≤ 7 * l.length + 18 ∧ Put w0 g off cur (bv cb) w

def JAt (w0 : World) (g off tb m c bs os n sc : Nat) (cur : List Value) (l : List UInt8) (a : Act) (w : World) : Prop :=
  ∃ (cb : List UInt8) (d ne b : Nat) (v4 v9 : Value), ne ≤ n ∧ v4 = .int .i64 (d : Int) ∧ v9 = .int .i64 (ne : Int) ∧ JFrame (.slice (some ⟨g, off, none⟩) m c) (.slice (some ⟨bs, os, none⟩) n sc) v4 v9 a ∧ Hid (EncSt w0 g off tb cur l cb d ne b 0 w)

theorem grow_new {w0 w : World} {r : Option Nat} (h : w0.grownBy w r) {p : Addr} (hp : w0.heap.size ≤ p.block) (u : Value) : w0.grownBy (w.setCell p u) r :=
  ⟨h.os, h.tape, h.output, by simpa [World.setCell] using h.size, fun k hk hr => (Below.heap_setCell w p u k (by omega)).trans (h.block k hk hr)⟩
theorem grow_weak {w w' : World} {r : Option Nat} (h : w.grownBy w' none) : w.grownBy w' r := ⟨h.os, h.tape, h.output, h.size, fun k hk _ => h.block k hk (by simp)⟩

theorem src_grown {w w' : World} {bs os g : Nat} {l : List UInt8} (h : Src w bs os l) (hg : w.grownBy w' (some g)) (hne : bs ≠ g) : Src w' bs os l := by
  intro j hj
  exact hg.cell (h j hj) (by simpa using hne)
section
variable {w0 w w' : World} {g off tb : Nat} {cur : List Value} {l cb : List UInt8} {d ne b s : Nat}
theorem EncSt.drewN (h : EncSt w0 g off tb cur l cb d ne b s w) (k : Nat) : EncSt w0 g off tb cur l cb d ne b s (w.drewN k) :=
  ⟨h.1, h.2.1, h.2.2.1, h.2.2.2.1, grow_drewN h.2.2.2.2.1 k, h.2.2.2.2.2⟩
theorem EncSt.drew (h : EncSt w0 g off tb cur l cb d ne b s w) : EncSt w0 g off tb cur l cb d ne b s w.drew :=
  ⟨h.1, h.2.1, h.2.2.1, h.2.2.2.1, grow_drew h.2.2.2.2.1, h.2.2.2.2.2⟩
theorem EncSt.up (h : EncSt w0 g off tb cur l cb d ne b s w) {b' : Nat} (hb : b ≤ b') : EncSt w0 g off tb cur l cb d ne b' s w :=
  ⟨h.1, h.2.1, h.2.2.1, h.2.2.2.1, h.2.2.2.2.1, h.2.2.2.2.2.mono hb⟩
theorem EncSt.note (h : EncSt w0 g off tb cur l cb d ne b s w) (htb : w0.heap.size ≤ tb) (hgt : g ≠ tb) (i : Nat) {x : Int} {v b' : Nat} (hx : x = (v : Int)) (hv : v < b') (hb : b ≤ b') : EncSt w0 g off tb cur l cb d ne b' s (w.setCell ⟨tb, i, none⟩ (.int .u16 x)) := by
  subst hx
  exact ⟨h.1, h.2.1, h.2.2.1, h.2.2.2.1.far (by exact hgt) _, grow_new h.2.2.2.2.1 (by exact htb) _, h.2.2.2.2.2.set_ hb i v hv⟩
theorem EncSt.slack (h : EncSt w0 g off tb cur l cb d ne b s w) {s' : Nat} (hs : s ≤ s') : EncSt w0 g off tb cur l cb d ne b s' w :=
  ⟨h.1, h.2.1, by have := h.2.2.1; omega, h.2.2.2⟩
theorem EncSt.entry (h : EncSt w0 g off tb cur l cb d ne b s w) (i : Nat) (hi : i < 16384) : ∃ v : Nat, v < b ∧ w.cell? ⟨tb, i, none⟩ = some (.int .u16 (v : Int)) := h.2.2.2.2.2.cell i hi
theorem EncSt.frz (h : EncSt w0 g off tb cur l cb d ne b s w) (i : Nat) : w.frozen? ⟨tb, i, none⟩ = false := h.2.2.2.2.2.frozen i
theorem EncSt.src (h : EncSt w0 g off tb cur l cb d ne b s w) {bs os : Nat} {l' : List UInt8} (hs : Src w0 bs os l') (hne : bs ≠ g) : Src w bs os l' := src_grown hs h.2.2.2.2.1 hne
theorem EncSt.blk (h : EncSt w0 g off tb cur l cb d ne b s w) : Blk w g 5 (splice cur off (bv cb)) := h.2.2.2.1
theorem EncSt.cost (h : EncSt w0 g off tb cur l cb d ne b s w) : 6 * d ≤ 7 * ne + s := h.2.2.1
theorem EncSt.len (h : EncSt w0 g off tb cur l cb d ne b s w) (hf : off + d ≤ cur.length) : (splice cur off (bv cb)).length = cur.length := length_splice _ _ _ (by rw [bv_length, h.1]; exact hf)
theorem Put.trans_ {X : List UInt8} (hw : w0.grownBy w (some g)) (hd : cb.length = d) (hp : Put w g (off + d) (splice cur off (bv cb)) (bv X) w') (hf : off + d + X.length ≤ cur.length) : Put w0 g off cur (bv (cb ++ X)) w' := by
  refine ⟨?_, grow_trans hw hp.2⟩
  have := hp.1
  subst hd
  rw [show off + cb.length = off + (bv cb).length from by rw [bv_length], splice_splice _ _ _ _ (by rw [bv_length, bv_length]; exact hf), ← bv_append] at this
  exact this
theorem EncSt.more (h : EncSt w0 g off tb cur l cb d ne b s w) {X : List UInt8} (hp : Put w g (off + d) (splice cur off (bv cb)) (bv X) w') {ne' s' : Nat} (hst : Sn.Steps X (l.take ne) (l.take ne'))
    (hf : off + d + X.length ≤ cur.length) (hb : 6 * (d + X.length) ≤ 7 * ne' + s') (hgt : g ≠ tb) : EncSt w0 g off tb cur l (cb ++ X) (d + X.length) ne' b s' w' := by
  have hP := Put.trans_ h.2.2.2.2.1 h.1 hp hf
  exact ⟨by rw [List.length_append, h.1], h.2.1.trans hst, hb, hP.1, hP.2, h.2.2.2.2.2.grown hp.2 (by simpa using Ne.symm hgt)⟩
theorem EncSt.fin (h : EncSt w0 g off tb cur l cb d l.length b 0 w) : BlockEnd w0 g off cur l (.returned (.int .i64 (d : Int))) w := by
  refine ⟨cb, by rw [h.1], ?_, by have := h.1; have := h.2.2.1; omega, h.2.2.2.1, h.2.2.2.2.1⟩
  have := h.2.1
  rwa [List.take_length] at this
theorem EncSt.last (h : EncSt w0 g off tb cur l cb d ne b 0 w) (hne : ne < l.length) (h64 : l.length ≤ 65536) (hp : Put w g (off + d) (splice cur off (bv cb)) (bv (Sn.litB (l.drop ne))) w')
    (hf : off + d + (Sn.litB (l.drop ne)).length ≤ cur.length) : BlockEnd w0 g off cur l (.returned (.int .i64 ((d + (Sn.litB (l.drop ne)).length : Nat) : Int))) w' := by
  have hP := Put.trans_ h.2.2.2.2.1 h.1 hp hf
  refine ⟨cb ++ Sn.litB (l.drop ne), by rw [List.length_append, h.1], ?_, ?_, hP⟩
  · have hs := Sn.litB_steps (l.drop ne) (l.take ne) (by rw [List.length_drop]; omega) (by rw [List.length_drop]; omega)
    rw [List.take_append_drop] at hs
    exact h.2.1.trans hs
  · have h1 := h.2.2.1
    have h2 := Sn.litB_cost (l.drop ne) (by rw [List.length_drop]; omega)
    rw [List.length_append, h.1]
    rw [List.length_drop] at h2
    omega
end

theorem lit_at (g o m c bs os sc k : Nat) (L : List UInt8) (cur : List Value) (w : World) (hk : L.length = k) (hL : 1 ≤ k) (hL2 : k ≤ 65536) (hm : k + 3 ≤ m) (hmc : m ≤ c)
    (hg : Blk w g 5 cur) (hfit : o + k + 3 ≤ cur.length) (hsrc : Src w bs os L) (hne : bs ≠ g) :
    Calls Tryd.prog 18 #[.slice (some ⟨g, o, none⟩) m c, .slice (some ⟨bs, os, none⟩) k sc] w (LitEnd w g o (Sn.litB L).length cur (bv (Sn.litB L))) := by
  subst hk
  exact lit_any g o m c bs os sc L cur w hL hL2 hm hmc hg hfit hsrc hne

theorem load32_at (b o n c : Nat) (x : Int) (i : Nat) (l : List UInt8) (w : World) (hx : x = (i : Int)) (hl : l.length = n) (hs : Src w b o l) (hi : i + 4 ≤ n) (hn : n ≤ c) (hc : c ≤ 9223372036854775807) :
    Calls Tryd.prog 24 #[.slice (some ⟨b, o, none⟩) n c, .int .i64 x] w fun e w' => e = .returned (.int .u32 (Sn.le32 l i : Int)) ∧ ∃ nq, w' = w.drewN nq := by
  subst hl
  subst hx
  exact load32_any b o c i l w hs hi hn hc
theorem load64_at (b o n c : Nat) (x : Int) (i : Nat) (l : List UInt8) (w : World) (hx : x = (i : Int)) (hl : l.length = n) (hs : Src w b o l) (hi : i + 8 ≤ n) (hn : n ≤ c) (hc : c ≤ 9223372036854775807) :
    Calls Tryd.prog 26 #[.slice (some ⟨b, o, none⟩) n c, .int .i64 x] w fun e w' => e = .returned (.int .u64 (Sn.le64 l i : Int)) ∧ ∃ nq, w' = w.drewN nq := by
  subst hl
  subst hx
  exact load64_any b o c i l w hs hi hn hc
theorem hash_at (x y : Int) (w : World) (hx : 0 ≤ x ∧ x < 4294967296) (hy : 0 ≤ y ∧ y < 32) :
    Calls Tryd.prog 23 #[.int .u32 x, .int .u32 y] w fun e w' => IsU32 e ∧ w = w' := by
  obtain ⟨u, rfl⟩ := Int.eq_ofNat_of_zero_le hx.1
  obtain ⟨s, rfl⟩ := Int.eq_ofNat_of_zero_le hy.1
  exact hash_any u s (by omega) (by omega) w

theorem mask_lt (h : Nat) (hh : h < 4294967296) : 0 ≤ bits .and .u32 (h : Int) 16383 ∧ bits .and .u32 (h : Int) 16383 < 16384 := by
  have e := (bits_nat .u32 32 (by decide) wraps_u32 h 16383 (by simpa using hh) (by decide)).1
  have e3 : ((16383 : Nat) : Int) = 16383 := rfl
  rw [e3] at e
  rw [e]
  have := Nat.and_lt_two_pow (n := 14) h (y := 16383) (by decide)
  omega

theorem copy_at (g o m c : Nat) (x y : Int) (ov k : Nat) (cur : List Value) (w : World) (hx : x = (ov : Int)) (hy : y = (k : Int)) (h1 : 1 ≤ ov) (h2 : ov ≤ 65535) (hk : 4 ≤ k) (hk2 : k ≤ 65535) (hm : k + 3 ≤ m) (hmc : m ≤ c)
    (hg : Blk w g 5 cur) (hfit : o + k + 3 ≤ cur.length) :
    Calls Tryd.prog 25 #[.slice (some ⟨g, o, none⟩) m c, .int .i64 x, .int .i64 y] w (LitEnd w g o (Sn.copB ov k).length cur (bv (Sn.copB ov k))) := by
  subst hx
  subst hy
  exact copy_any g o m c ov k cur w h1 h2 hk hk2 hm hmc hg hfit

/-- A literal, then what the tables say: the state behind emitLiteral. -/
theorem EncSt.lit {w0 w w' : World} {g off tb : Nat} {cur : List Value} {l cb : List UInt8} {d ne b s' : Nat} (h : EncSt w0 g off tb cur l cb d ne b 0 w) (hlt : ne < s') (hs : s' ≤ l.length) (h64 : l.length ≤ 65536)
    (hp : Put w g (off + d) (splice cur off (bv cb)) (bv (Sn.litB ((l.drop ne).take (s' - ne)))) w') (hf : off + d + (Sn.litB ((l.drop ne).take (s' - ne))).length ≤ cur.length) (hgt : g ≠ tb) :
    EncSt w0 g off tb cur l (cb ++ Sn.litB ((l.drop ne).take (s' - ne))) (d + (Sn.litB ((l.drop ne).take (s' - ne))).length) s' b 6 w' := by
  have hL : ((l.drop ne).take (s' - ne)).length = s' - ne := by rw [List.length_take, List.length_drop]; omega
  refine h.more hp ?_ hf ?_ hgt
  · have e : l.take s' = l.take ne ++ (l.drop ne).take (s' - ne) := by
      rw [← List.take_add]
      congr 1
      omega
    rw [e]
    exact Sn.litB_steps _ _ (by omega) (by omega)
  · have h1 := h.cost
    have h2 := Sn.litB_cost ((l.drop ne).take (s' - ne)) (by omega)
    omega
/-- The state behind emitCopy. -/
theorem EncSt.cop {w0 w w' : World} {g off tb : Nat} {cur : List Value} {l cb : List UInt8} {d s b cd e : Nat} (h : EncSt w0 g off tb cur l cb d s b 6 w) (hcd : cd < s) (he : s + 4 ≤ e) (hel : e ≤ l.length) (h64 : l.length ≤ 65535)
    (hm : ∀ j, j < e - s → l.getD (cd + j) 0 = l.getD (s + j) 0)
    (hp : Put w g (off + d) (splice cur off (bv cb)) (bv (Sn.copB (s - cd) (e - s))) w') (hf : off + d + (Sn.copB (s - cd) (e - s)).length ≤ cur.length) (hgt : g ≠ tb) :
    EncSt w0 g off tb cur l (cb ++ Sn.copB (s - cd) (e - s)) (d + (Sn.copB (s - cd) (e - s)).length) e b 0 w' := by
  refine h.more hp ?_ hf ?_ hgt
  · have hs := Sn.copB_steps (s - cd) (by omega) (by omega) (e - s) (l.take s) (by omega) (by rw [List.length_take]; omega)
    rw [Sn.copyOut_take l s (s - cd) (by omega) (by omega) (e - s) (by omega) (fun j hj => by rw [show s - (s - cd) + j = cd + j from by omega]; exact hm j hj), show s + (e - s) = e from by omega] at hs
    exact hs
  · have h1 := h.cost
    have h2 := Sn.copB_cost (s - cd) (e - s) (by omega)
    omega

/-- the size of the hash table behind k doublings -/
def tz (k : Nat) : Nat := 256 * 2 ^ k
theorem tz_succ (k : Nat) : tz (k + 1) = tz k * 2 := by unfold tz; rw [Nat.pow_succ]; omega
theorem tz_le : ∀ k, k ≤ 6 → tz k ≤ 16384 ∧ 256 ≤ tz k
  | 0, _ => by decide
  | 1, _ => by decide
  | 2, _ => by decide
  | 3, _ => by decide
  | 4, _ => by decide
  | 5, _ => by decide
  | 6, _ => by decide
  | k + 7, h => by omega
theorem tz_lt : ∀ k, k ≤ 6 → tz k < 16384 → k ≤ 5
  | 6, _, h => absurd h (by decide)
  | 0, _, _ => by omega
  | 1, _, _ => by omega
  | 2, _, _ => by omega
  | 3, _, _ => by omega
  | 4, _, _ => by omega
  | 5, _, _ => by omega
  | k + 7, h, _ => by omega

theorem EncSt.start {w wt : World} {g off : Nat} {cur : List Value} {l : List UInt8} (hg : Blk w g 5 cur) (e : wt = w.alloc (.cells Za 55)) : EncSt w g off w.heap.size cur l [] 0 0 1 0 wt := by
  subst e
  refine ⟨rfl, ?_, by omega, ?_, grow_alloc (grow_refl w _) _, Tab.new w (by omega)⟩
  · simpa using Sn.Steps.nil []
  · have e : splice cur off (bv []) = cur := by simp [splice, bv]
    rw [e]
    exact hg.alloc _

end Go.Proofs.YtbhcdkbcbcmomaaDoor
