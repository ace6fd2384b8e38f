import Derived.Test.YbulkdsruGreatDoorRecvB
namespace Go.Proofs.YbulkdsruGreatDoor
open Go.RowKit Go.Op Go.Shelf
set_option linter.unusedVariables false
set_option linter.unusedSimpArgs false
attribute [local go_sem] Oper.semAt_some

/-- The bodies of a code's ranges over functions. -/
def rangeBodies : Code → List Code
  | .rangeFunc _ _ _ c => [c]
  | .seq a c => rangeBodies a ++ rangeBodies c
  | .block _ c => rangeBodies c
  | .scope c => rangeBodies c
  | .cond _ a c => rangeBodies a ++ rangeBodies c
  | .loop c => rangeBodies c
  | _ => []
noncomputable def body9 : Code := ((Ybaz.f9.body.map rangeBodies).getD []).getD 1 .skip

def psi9_16 (b g o1 M cc : Nat) (s : Int) (now : Tm) : Nat → Value → Prop
  | 60 => fun v => v = .pointer (some ⟨b, 0, none⟩)
  | 61 => fun v => v = .agg #[.slice (some ⟨g, o1, none⟩) M cc]
  | 62 => fun v => v = .int .u32 s
  | 63 => fun v => v = tv now.n now.s
  | _ => fun _ => True

def psi9_19 (b g o1 M cc : Nat) (s : Int) (now : Tm) : Nat → Value → Prop
  | 71 => fun v => v = .pointer (some ⟨b, 0, none⟩)
  | 72 => fun v => v = .agg #[.slice (some ⟨g, o1, none⟩) M cc]
  | 73 => fun v => v = .int .u32 s
  | 74 => fun v => v = tv now.n now.s
  | _ => fun _ => True

set_option maxRecDepth 100000 in
set_option maxHeartbeats 2000000 in
theorem body_sdes (l mm b g o1 M cc n0 n2 Bx nn : Nat) (p : Pk) (rest : List Int) (S : StV) (keys : List Int) (f : Ms) (now : Tm) (W : World) {Q : Exit → Act → World → Prop}
    (HW0 : W.heap[n0]? = some (.cells #[.pointer (some ⟨b, 0, none⟩)] 53)) (HW2 : W.heap[n2]? = some (.cells #[.int .u64 now.n, .int .i64 now.s, .pointer none] 48)) (HBx : W.heap[Bx]? = some (.cells #[.slice (some ⟨g, o1, none⟩) M cc, .int .i64 M] 81))
    (a0 : n0 ≠ b) (a0' : n0 ≠ S.mb) (a2 : n2 ≠ b) (a2' : n2 ≠ S.mb) (aB : Bx ≠ b) (aB' : Bx ≠ S.mb) (ag : g ≠ b) (ag' : g ≠ S.mb) (hg : g < W.heap.size)
    (hrow : Row W g o1 (p.bytes ++ rest)) (hM : M = 4 + 4 * p.k) (hMc : M ≤ cc) (hok : p.ok) (hRS : RS W b nn S keys f W) (hmm : 1 ≤ mm) (hn : nn < maxLen) (hnd : keys.Nodup) (hkl : keys.length ≤ 1000000) (hke : ∀ e ∈ p.evs, e.2 ∈ keys)
    (hQ : ∀ a' W', RS W b (nn + 1) S keys (run now f p.evs) W' → Q .normal a' W') (hp : p = .sdes) {u0 u1 u2 u4 u6 u7 u8 u9 u11 u12 u13 u14 u15 u16 u17 u18 u19 u20 u21 u22 u23 u24 u25 u26 u27 u28 u29 u30 u31 u32 u33 u34 u35 u36 u37 u38 u39 u40 u41 u42 u43 u44 u45 u46 u47 u48 u49 u50 u51 u52 u53 u54 u55 u56 u57 u58 u59 u60 u61 u62 u63 u64 u65 u66 u67 u68 u69 u70 u71 u72 u73 u74 u75 u76 u77 u78 u79 u80 u81 u82 u83 u84 u85 u86 u87 u88 u89 u90 u91 u92 u93 u94 u95 : Value} :
    Code.wpIn (Fence.wide.inRound l) mm Ybaz.prog body9 Q { tmps := #[u0, u1, u2, .pointer (some ⟨n0, 0, none⟩), u4, .pointer (some ⟨n2, 0, none⟩), u6, u7, u8, u9, .pointer (some ⟨Bx, 0, none⟩), u11, u12, u13, u14, u15, u16, u17, u18, u19, u20, u21, u22, u23, u24, u25, u26, u27, u28, u29, u30, u31, u32, u33, u34, u35, u36, u37, u38, u39, u40, u41, u42, u43, u44, u45, u46, u47, u48, u49, u50, u51, u52, u53, u54, u55, u56, u57, u58, u59, u60, u61, u62, u63, u64, u65, u66, u67, u68, u69, u70, u71, u72, u73, u74, u75, u76, u77, u78, u79, u80, u81, u82, u83, u84, u85, u86, u87, u88, u89, u90, u91, u92, u93, u94, u95], defers := [] } W := by
  have hn0 := hn
  have HBX : Hid (W.heap[Bx]? = some (.cells #[.slice (some ⟨g, o1, none⟩) M cc, .int .i64 M] 81)) := HBx
  have HW0' : Hid (W.heap[n0]? = some (.cells #[.pointer (some ⟨b, 0, none⟩)] 53)) := HW0
  have HW2' : Hid (W.heap[n2]? = some (.cells #[.int .u64 now.n, .int .i64 now.s, .pointer none] 48)) := HW2
  have R0 : Hid (RS W b nn S keys f W) := hRS
  have HROW : Hid (Row W g o1 (p.bytes ++ rest)) := hrow
  have HT : Hid (p.typ = 202) := by subst hp; rfl
  have HQ : Hid (∀ a' W', RS W b (nn + 1) S keys (run now f p.evs) W' → Q .normal a' W') := hQ
  have HE : Hid (p.evs = []) := by subst hp; rfl
  have HMM : Hid (M = 4 + 4 * p.k) := hM
  have hM4 : 2 ≤ M := by omega
  have HOK : Hid p.ok := hok
  have HKE : Hid (∀ e ∈ p.evs, e.2 ∈ keys) := hke
  have HP : Hid (p = .sdes) := hp
  clear HBx HW0 HW2 hRS hrow hQ hM hok hke hp
  conv => arg 4; whnf
  have p0 : W.cell? ⟨Bx, 0, none⟩ = some (.slice (some ⟨g, o1, none⟩) M cc) := cell_of (R0.out.at HBX.out aB aB')
  have p1 : W.cell? ⟨Bx, 1, none⟩ = some (.int .i64 M) := cell_of (R0.out.at HBX.out aB aB')
  have hB0 := sr_any g o1 M cc (M : Int) 202 W hM4 (Nat.lt_of_lt_of_le hg R0.out.size) ((R0.out.row HROW.out hg ag ag').c1.trans (by rw [HT.out]))
  gi_wp2
  refine ⟨trivial, ?_⟩
  gi_at_call 23
  refine (CallsIn.inRound l (callsIn_wide.2 hB0)).mono ?_
  clear hB0 p0 p1
  rintro e Y0 ⟨rfl, hb⟩
  have Q0 : Hid (RS W b nn S keys (f) Y0) := R0.out.step hb
  clear hb
  unfold viewV
  rw [if_neg (by decide)]
  have R1 : Hid (RS W b nn S keys (f) (Y0.alloc (.cells #[.slice none 0 0] 87))) := Q0.out.alloc _
  have z0 : Bx < Y0.heap.size := Nat.lt_of_lt_of_le (Array.getElem?_eq_some_iff.1 HBX.out).1 Q0.out.size
  have p0 : (Y0.alloc (.cells #[.slice none 0 0] 87)).cell? ⟨Bx, 0, none⟩ = some (.slice (some ⟨g, o1, none⟩) M cc) := cell_of (R1.out.at HBX.out aB aB')
  have p1 : (Y0.alloc (.cells #[.slice none 0 0] 87)).cell? ⟨Bx, 1, none⟩ = some (.int .i64 M) := cell_of (R1.out.at HBX.out aB aB')
  have hB1 := rr_any g o1 M cc (M : Int) 202 (Y0.alloc (.cells #[.slice none 0 0] 87)) hM4 (Nat.lt_of_lt_of_le hg R1.out.size) ((R1.out.row HROW.out hg ag ag').c1.trans (by rw [HT.out]))
  gi_wp2
  refine ⟨trivial, ?_⟩
  gi_at_call 26
  refine (CallsIn.inRound l (callsIn_wide.2 hB1)).mono ?_
  clear hB1 p0 p1
  rintro e Y1 ⟨rfl, hb⟩
  have Q1 : Hid (RS W b nn S keys (f) Y1) := R1.out.step hb
  clear hb
  unfold viewV
  rw [if_neg (by decide)]
  have R2 : Hid (RS W b nn S keys (f) (Y1.alloc (.cells #[.slice none 0 0] 92))) := Q1.out.alloc _
  have z1 : Bx < Y1.heap.size := Nat.lt_of_lt_of_le (Array.getElem?_eq_some_iff.1 HBX.out).1 Q1.out.size
  have p0 : (Y1.alloc (.cells #[.slice none 0 0] 92)).cell? ⟨Bx, 0, none⟩ = some (.slice (some ⟨g, o1, none⟩) M cc) := cell_of (R2.out.at HBX.out aB aB')
  have p1 : (Y1.alloc (.cells #[.slice none 0 0] 92)).cell? ⟨Bx, 1, none⟩ = some (.int .i64 M) := cell_of (R2.out.at HBX.out aB aB')
  have hB2 := bye_any g o1 M cc (M : Int) 202 (Y1.alloc (.cells #[.slice none 0 0] 92)) hM4 (Nat.lt_of_lt_of_le hg R2.out.size) ((R2.out.row HROW.out hg ag ag').c1.trans (by rw [HT.out]))
  gi_wp2
  refine ⟨trivial, ?_⟩
  gi_at_call 20
  refine (CallsIn.inRound l (callsIn_wide.2 hB2)).mono ?_
  clear hB2 p0 p1
  rintro e Y2 ⟨rfl, hb⟩
  have Q2 : Hid (RS W b nn S keys (f) Y2) := R2.out.step hb
  clear hb
  unfold viewV
  rw [if_neg (by decide)]
  have R3 : Hid (RS W b nn S keys (f) (Y2.alloc (.cells #[.slice none 0 0] 82))) := Q2.out.alloc _
  have z2 : Bx < Y2.heap.size := Nat.lt_of_lt_of_le (Array.getElem?_eq_some_iff.1 HBX.out).1 Q2.out.size
  gi_wp2
  refine HQ.out _ _ ?_
  rw [HE.out]
  exact R3.out.more (by omega)

set_option maxRecDepth 100000 in
set_option maxHeartbeats 2000000 in
theorem body_sr (l mm b g o1 M cc n0 n2 Bx nn : Nat) (p : Pk) (rest : List Int) (S : StV) (keys : List Int) (f : Ms) (now : Tm) (W : World) {Q : Exit → Act → World → Prop}
    (HW0 : W.heap[n0]? = some (.cells #[.pointer (some ⟨b, 0, none⟩)] 53)) (HW2 : W.heap[n2]? = some (.cells #[.int .u64 now.n, .int .i64 now.s, .pointer none] 48)) (HBx : W.heap[Bx]? = some (.cells #[.slice (some ⟨g, o1, none⟩) M cc, .int .i64 M] 81))
    (a0 : n0 ≠ b) (a0' : n0 ≠ S.mb) (a2 : n2 ≠ b) (a2' : n2 ≠ S.mb) (aB : Bx ≠ b) (aB' : Bx ≠ S.mb) (ag : g ≠ b) (ag' : g ≠ S.mb) (hg : g < W.heap.size)
    (hrow : Row W g o1 (p.bytes ++ rest)) (hM : M = 4 + 4 * p.k) (hMc : M ≤ cc) (hok : p.ok) (hRS : RS W b nn S keys f W) (hmm : 1 ≤ mm) (hn : nn < maxLen) (hnd : keys.Nodup) (hkl : keys.length ≤ 1000000) (hke : ∀ e ∈ p.evs, e.2 ∈ keys)
    (hQ : ∀ a' W', RS W b (nn + 1) S keys (run now f p.evs) W' → Q .normal a' W') (s : Int) (hp : p = .sr s) {u0 u1 u2 u4 u6 u7 u8 u9 u11 u12 u13 u14 u15 u16 u17 u18 u19 u20 u21 u22 u23 u24 u25 u26 u27 u28 u29 u30 u31 u32 u33 u34 u35 u36 u37 u38 u39 u40 u41 u42 u43 u44 u45 u46 u47 u48 u49 u50 u51 u52 u53 u54 u55 u56 u57 u58 u59 u60 u61 u62 u63 u64 u65 u66 u67 u68 u69 u70 u71 u72 u73 u74 u75 u76 u77 u78 u79 u80 u81 u82 u83 u84 u85 u86 u87 u88 u89 u90 u91 u92 u93 u94 u95 : Value} :
    Code.wpIn (Fence.wide.inRound l) mm Ybaz.prog body9 Q { tmps := #[u0, u1, u2, .pointer (some ⟨n0, 0, none⟩), u4, .pointer (some ⟨n2, 0, none⟩), u6, u7, u8, u9, .pointer (some ⟨Bx, 0, none⟩), u11, u12, u13, u14, u15, u16, u17, u18, u19, u20, u21, u22, u23, u24, u25, u26, u27, u28, u29, u30, u31, u32, u33, u34, u35, u36, u37, u38, u39, u40, u41, u42, u43, u44, u45, u46, u47, u48, u49, u50, u51, u52, u53, u54, u55, u56, u57, u58, u59, u60, u61, u62, u63, u64, u65, u66, u67, u68, u69, u70, u71, u72, u73, u74, u75, u76, u77, u78, u79, u80, u81, u82, u83, u84, u85, u86, u87, u88, u89, u90, u91, u92, u93, u94, u95], defers := [] } W := by
  have hn0 := hn
  have HBX : Hid (W.heap[Bx]? = some (.cells #[.slice (some ⟨g, o1, none⟩) M cc, .int .i64 M] 81)) := HBx
  have HW0' : Hid (W.heap[n0]? = some (.cells #[.pointer (some ⟨b, 0, none⟩)] 53)) := HW0
  have HW2' : Hid (W.heap[n2]? = some (.cells #[.int .u64 now.n, .int .i64 now.s, .pointer none] 48)) := HW2
  have R0 : Hid (RS W b nn S keys f W) := hRS
  have HROW : Hid (Row W g o1 (p.bytes ++ rest)) := hrow
  have HT : Hid (p.typ = 200) := by subst hp; rfl
  have HQ : Hid (∀ a' W', RS W b (nn + 1) S keys (run now f p.evs) W' → Q .normal a' W') := hQ
  have HE : Hid (p.evs = [(0, s)]) := by subst hp; rfl
  have HMM : Hid (M = 4 + 4 * p.k) := hM
  have hM4 : 2 ≤ M := by omega
  have HOK : Hid p.ok := hok
  have HKE : Hid (∀ e ∈ p.evs, e.2 ∈ keys) := hke
  have HP : Hid (p = .sr s) := hp
  clear HBx HW0 HW2 hRS hrow hQ hM hok hke hp
  conv => arg 4; whnf
  have p0 : W.cell? ⟨Bx, 0, none⟩ = some (.slice (some ⟨g, o1, none⟩) M cc) := cell_of (R0.out.at HBX.out aB aB')
  have p1 : W.cell? ⟨Bx, 1, none⟩ = some (.int .i64 M) := cell_of (R0.out.at HBX.out aB aB')
  have hB0 := sr_any g o1 M cc (M : Int) 200 W hM4 (Nat.lt_of_lt_of_le hg R0.out.size) ((R0.out.row HROW.out hg ag ag').c1.trans (by rw [HT.out]))
  gi_wp2
  refine ⟨trivial, ?_⟩
  gi_at_call 23
  refine (CallsIn.inRound l (callsIn_wide.2 hB0)).mono ?_
  clear hB0 p0 p1
  rintro e Y0 ⟨rfl, hb⟩
  have Q0 : Hid (RS W b nn S keys (f) Y0) := R0.out.step hb
  clear hb
  unfold viewV
  rw [if_pos rfl]
  have R1 : Hid (RS W b nn S keys (f) (Y0.alloc (.cells #[.slice (some ⟨g, o1, none⟩) M cc] 87))) := Q0.out.alloc _
  have z0 : Bx < Y0.heap.size := Nat.lt_of_lt_of_le (Array.getElem?_eq_some_iff.1 HBX.out).1 Q0.out.size
  gi_wp2
  have vb0 : Y0.heap.size < (Y0.alloc (.cells #[.slice (some ⟨g, o1, none⟩) M cc] 87)).heap.size := by simp
  have KV : Hid ((Y0.alloc (.cells #[.slice (some ⟨g, o1, none⟩) M cc] 87)).heap[Y0.heap.size]? = some (.cells #[.slice (some ⟨g, o1, none⟩) M cc] 87)) := top_at rfl
  generalize Y0.heap.size = vb at KV vb0 ⊢
  have K0 : Hid ((Y0.alloc (.cells #[.slice (some ⟨g, o1, none⟩) M cc] 87)).heap[n0]? = some (.cells #[.pointer (some ⟨b, 0, none⟩)] 53)) := R1.out.at HW0'.out a0 a0'
  have K2 : Hid ((Y0.alloc (.cells #[.slice (some ⟨g, o1, none⟩) M cc] 87)).heap[n2]? = some (.cells #[.int .u64 now.n, .int .i64 now.s, .pointer none] 48)) := R1.out.at HW2'.out a2 a2'
  have KR : Hid (Row (Y0.alloc (.cells #[.slice (some ⟨g, o1, none⟩) M cc] 87)) g o1 (p.bytes ++ rest)) := R1.out.row HROW.out hg ag ag'
  have GZ : Hid (g < (Y0.alloc (.cells #[.slice (some ⟨g, o1, none⟩) M cc] 87)).heap.size) := Nat.lt_of_lt_of_le hg R1.out.size
  have RZ : Hid (RS W b nn S keys f (Y0.alloc (.cells #[.slice (some ⟨g, o1, none⟩) M cc] 87))) := R1.out
  generalize (Y0.alloc (.cells #[.slice (some ⟨g, o1, none⟩) M cc] 87)) = Z at KV vb0 K0 K2 KR GZ RZ ⊢
  refine wpIn_region_last (fun w' => Below Z.heap.size Z w') (fun w' => RS W b (nn + 1) S keys (hear now true f s) w') (psi9_16 b g o1 M cc s now) 4 mixed (Below.refl _ _).drew (by kernel_rfl) (by kernel_rfl) (by kernel_rfl) (by kernel_rfl) (by kernel_rfl) (by kernel_rfl) ?each ?last ?fin
  case each =>
    simp only [List.dropLast, List.forall_mem_cons]
    refine ⟨?_, ?_, ?_, ?_, fun _ h => by cases h⟩
    · intro a w1 hC hs hn
      have h1' : a.tmps.getD 3 undef = .pointer (some ⟨n0, 0, none⟩) := hs 3 (by kernel_rfl)
      have hc0 : w1.cell? ⟨n0, 0, none⟩ = some (.pointer (some ⟨b, 0, none⟩)) := (hC.cell (p := ⟨n0, 0, none⟩) (Array.getElem?_eq_some_iff.1 K0.out).1).trans (cell_of K0.out)
      have HC : Hid _ := hC
      clear hs hn hC
      unfold Oper.wp
      simp only [execOp, Act.eval, h1']
      go_simp
      exact ⟨_, rfl, rfl, HC.out⟩
    · intro a w1 hC hs hn
      have h1' : a.tmps.getD 11 undef = .pointer (some ⟨vb, 0, none⟩) := hs 11 (by kernel_rfl)
      have hc0 : w1.cell? ⟨vb, 0, none⟩ = some (.slice (some ⟨g, o1, none⟩) M cc) := (hC.cell (p := ⟨vb, 0, none⟩) (Array.getElem?_eq_some_iff.1 KV.out).1).trans (cell_of KV.out)
      have HC : Hid _ := hC
      clear hs hn hC
      unfold Oper.wp
      simp only [execOp, Act.eval, h1']
      go_simp
      exact ⟨_, rfl, rfl, HC.out⟩
    · intro a w1 hC hs hn
      have h1' : a.tmps.getD 61 undef = .agg #[.slice (some ⟨g, o1, none⟩) M cc] := hn 61 (by kernel_rfl)
      have hrw : Row w1 g o1 (p.bytes ++ rest) := KR.out.below hC GZ.out
      clear hs hn
      unfold Oper.wp
      simp only [execOp, Act.eval, h1']
      go_simp
      rw [HP.out] at hrw
      have h0 := hrw 4 _ rfl
      have h1 := hrw 5 _ rfl
      have h2 := hrw 6 _ rfl
      have h3 := hrw 7 _ rfl
      refine (srssrc_any g o1 M cc _ _ _ _ w1 (by have := HMM.out; rw [HP.out] at this; simp [Pk.k] at this; omega) hMc (Nat.lt_of_lt_of_le GZ.out hC.size) h0 h1 h2 h3 (by omega) (by omega) (by omega) (by omega)).mono ?_
      rintro e w2 ⟨rfl, hb⟩
      refine ⟨_, rfl, ?_, hC.trans (hb.mono hC.size)⟩
      show Value.int .u32 _ = .int .u32 s
      rw [be4_val (by have := HOK.out; rw [HP.out] at this; exact this)]
    · intro a w1 hC hs hn
      have h1' : a.tmps.getD 5 undef = .pointer (some ⟨n2, 0, none⟩) := hs 5 (by kernel_rfl)
      have hc0 : w1.cell? ⟨n2, 0, none⟩ = some (.int .u64 now.n) := (hC.cell (p := ⟨n2, 0, none⟩) (Array.getElem?_eq_some_iff.1 K2.out).1).trans (cell_of K2.out)
      have hc1 : w1.cell? ⟨n2, 1, none⟩ = some (.int .i64 now.s) := (hC.cell (p := ⟨n2, 1, none⟩) (Array.getElem?_eq_some_iff.1 K2.out).1).trans (cell_of K2.out)
      have hc2 : w1.cell? ⟨n2, 2, none⟩ = some (.pointer none) := (hC.cell (p := ⟨n2, 2, none⟩) (Array.getElem?_eq_some_iff.1 K2.out).1).trans (cell_of K2.out)
      have HC : Hid _ := hC
      clear hs hn hC
      unfold Oper.wp
      simp only [execOp, Act.eval, h1']
      go_simp
      exact ⟨_, rfl, rfl, HC.out⟩
  case last =>
    simp only [List.getLast?, List.getLast, Option.mem_def, Option.some.injEq]
    rintro o2 rfl
    intro a w1 hC hs hn
    have h1' : a.tmps.getD 60 undef = .pointer (some ⟨b, 0, none⟩) := hn 60 (by kernel_rfl)
    have h2' : a.tmps.getD 62 undef = .int .u32 s := hn 62 (by kernel_rfl)
    have h3' : a.tmps.getD 63 undef = tv now.n now.s := hn 63 (by kernel_rfl)
    clear hs hn
    unfold Oper.wp
    simp only [execOp, Act.eval, h1', h2', h3']
    go_simp
    have R1 : RS W b nn S keys f w1 := RZ.out.step hC
    obtain ⟨c, hmp⟩ := R1.mm
    have hcl := cntS_le f keys
    refine (heard_any b nn c _ s now true f w1 R1.st hmp (by have := HOK.out; rw [HP.out] at this; exact this) hn0 (show (-1000000 : Int) ≤ ((cntS f keys : Nat) : Int) from by omega) (show ((cntS f keys : Nat) : Int) ≤ 1000000 from by omega)).mono ?_
    rintro e w2 ⟨rfl, q1, q2, q3⟩
    exact ⟨_, rfl, trivial, R1.heard hnd (HKE.out (0, s) (by rw [HE.out]; simp)) q1 q2 q3⟩
  case fin =>
    intro ff w1 hC hs hp
    have e3 : ff 3 = .pointer (some ⟨n0, 0, none⟩) := hs 3 (by kernel_rfl)
    have e5 : ff 5 = .pointer (some ⟨n2, 0, none⟩) := hs 5 (by kernel_rfl)
    have e10 : ff 10 = .pointer (some ⟨Bx, 0, none⟩) := hs 10 (by kernel_rfl)
    have RR : Hid (RS W b (nn + 1) S keys (hear now true f s) w1) := hC
    clear hs hp hC KV vb0 K0 K2 KR GZ RZ
    simp only [List.size_toArray, List.length_cons, List.length_nil, List.range, List.range.loop, List.map_cons, List.map_nil, e3, e5, e10]
    clear e3 e5 e10
    have p0 : w1.cell? ⟨Bx, 0, none⟩ = some (.slice (some ⟨g, o1, none⟩) M cc) := cell_of (RR.out.at HBX.out aB aB')
    have p1 : w1.cell? ⟨Bx, 1, none⟩ = some (.int .i64 M) := cell_of (RR.out.at HBX.out aB aB')
    have hB5 := rr_any g o1 M cc (M : Int) 200 w1 hM4 (Nat.lt_of_lt_of_le hg RR.out.size) ((RR.out.row HROW.out hg ag ag').c1.trans (by rw [HT.out]))
    gi_wp2
    refine ⟨trivial, ?_⟩
    gi_at_call 26
    refine (CallsIn.inRound l (callsIn_wide.2 hB5)).mono ?_
    clear hB5 p0 p1
    rintro e Y5 ⟨rfl, hb⟩
    have Q5 : Hid (RS W b (nn + 1) S keys (hear now true f s) Y5) := RR.out.step hb
    clear hb
    unfold viewV
    rw [if_neg (by decide)]
    have R6 : Hid (RS W b (nn + 1) S keys (hear now true f s) (Y5.alloc (.cells #[.slice none 0 0] 92))) := Q5.out.alloc _
    have z5 : Bx < Y5.heap.size := Nat.lt_of_lt_of_le (Array.getElem?_eq_some_iff.1 HBX.out).1 Q5.out.size
    have p0 : (Y5.alloc (.cells #[.slice none 0 0] 92)).cell? ⟨Bx, 0, none⟩ = some (.slice (some ⟨g, o1, none⟩) M cc) := cell_of (R6.out.at HBX.out aB aB')
    have p1 : (Y5.alloc (.cells #[.slice none 0 0] 92)).cell? ⟨Bx, 1, none⟩ = some (.int .i64 M) := cell_of (R6.out.at HBX.out aB aB')
    have hB6 := bye_any g o1 M cc (M : Int) 200 (Y5.alloc (.cells #[.slice none 0 0] 92)) hM4 (Nat.lt_of_lt_of_le hg R6.out.size) ((R6.out.row HROW.out hg ag ag').c1.trans (by rw [HT.out]))
    gi_wp2
    refine ⟨trivial, ?_⟩
    gi_at_call 20
    refine (CallsIn.inRound l (callsIn_wide.2 hB6)).mono ?_
    clear hB6 p0 p1
    rintro e Y6 ⟨rfl, hb⟩
    have Q6 : Hid (RS W b (nn + 1) S keys (hear now true f s) Y6) := R6.out.step hb
    clear hb
    unfold viewV
    rw [if_neg (by decide)]
    have R7 : Hid (RS W b (nn + 1) S keys (hear now true f s) (Y6.alloc (.cells #[.slice none 0 0] 82))) := Q6.out.alloc _
    have z6 : Bx < Y6.heap.size := Nat.lt_of_lt_of_le (Array.getElem?_eq_some_iff.1 HBX.out).1 Q6.out.size
    gi_wp2
    refine HQ.out _ _ ?_
    rw [HE.out]
    exact R7.out

set_option maxRecDepth 100000 in
set_option maxHeartbeats 2000000 in
theorem body_rr (l mm b g o1 M cc n0 n2 Bx nn : Nat) (p : Pk) (rest : List Int) (S : StV) (keys : List Int) (f : Ms) (now : Tm) (W : World) {Q : Exit → Act → World → Prop}
    (HW0 : W.heap[n0]? = some (.cells #[.pointer (some ⟨b, 0, none⟩)] 53)) (HW2 : W.heap[n2]? = some (.cells #[.int .u64 now.n, .int .i64 now.s, .pointer none] 48)) (HBx : W.heap[Bx]? = some (.cells #[.slice (some ⟨g, o1, none⟩) M cc, .int .i64 M] 81))
    (a0 : n0 ≠ b) (a0' : n0 ≠ S.mb) (a2 : n2 ≠ b) (a2' : n2 ≠ S.mb) (aB : Bx ≠ b) (aB' : Bx ≠ S.mb) (ag : g ≠ b) (ag' : g ≠ S.mb) (hg : g < W.heap.size)
    (hrow : Row W g o1 (p.bytes ++ rest)) (hM : M = 4 + 4 * p.k) (hMc : M ≤ cc) (hok : p.ok) (hRS : RS W b nn S keys f W) (hmm : 1 ≤ mm) (hn : nn < maxLen) (hnd : keys.Nodup) (hkl : keys.length ≤ 1000000) (hke : ∀ e ∈ p.evs, e.2 ∈ keys)
    (hQ : ∀ a' W', RS W b (nn + 1) S keys (run now f p.evs) W' → Q .normal a' W') (s : Int) (hp : p = .rr s) {u0 u1 u2 u4 u6 u7 u8 u9 u11 u12 u13 u14 u15 u16 u17 u18 u19 u20 u21 u22 u23 u24 u25 u26 u27 u28 u29 u30 u31 u32 u33 u34 u35 u36 u37 u38 u39 u40 u41 u42 u43 u44 u45 u46 u47 u48 u49 u50 u51 u52 u53 u54 u55 u56 u57 u58 u59 u60 u61 u62 u63 u64 u65 u66 u67 u68 u69 u70 u71 u72 u73 u74 u75 u76 u77 u78 u79 u80 u81 u82 u83 u84 u85 u86 u87 u88 u89 u90 u91 u92 u93 u94 u95 : Value} :
    Code.wpIn (Fence.wide.inRound l) mm Ybaz.prog body9 Q { tmps := #[u0, u1, u2, .pointer (some ⟨n0, 0, none⟩), u4, .pointer (some ⟨n2, 0, none⟩), u6, u7, u8, u9, .pointer (some ⟨Bx, 0, none⟩), u11, u12, u13, u14, u15, u16, u17, u18, u19, u20, u21, u22, u23, u24, u25, u26, u27, u28, u29, u30, u31, u32, u33, u34, u35, u36, u37, u38, u39, u40, u41, u42, u43, u44, u45, u46, u47, u48, u49, u50, u51, u52, u53, u54, u55, u56, u57, u58, u59, u60, u61, u62, u63, u64, u65, u66, u67, u68, u69, u70, u71, u72, u73, u74, u75, u76, u77, u78, u79, u80, u81, u82, u83, u84, u85, u86, u87, u88, u89, u90, u91, u92, u93, u94, u95], defers := [] } W := by
  have hn0 := hn
  have HBX : Hid (W.heap[Bx]? = some (.cells #[.slice (some ⟨g, o1, none⟩) M cc, .int .i64 M] 81)) := HBx
  have HW0' : Hid (W.heap[n0]? = some (.cells #[.pointer (some ⟨b, 0, none⟩)] 53)) := HW0
  have HW2' : Hid (W.heap[n2]? = some (.cells #[.int .u64 now.n, .int .i64 now.s, .pointer none] 48)) := HW2
  have R0 : Hid (RS W b nn S keys f W) := hRS
  have HROW : Hid (Row W g o1 (p.bytes ++ rest)) := hrow
  have HT : Hid (p.typ = 201) := by subst hp; rfl
  have HQ : Hid (∀ a' W', RS W b (nn + 1) S keys (run now f p.evs) W' → Q .normal a' W') := hQ
  have HE : Hid (p.evs = [(1, s)]) := by subst hp; rfl
  have HMM : Hid (M = 4 + 4 * p.k) := hM
  have hM4 : 2 ≤ M := by omega
  have HOK : Hid p.ok := hok
  have HKE : Hid (∀ e ∈ p.evs, e.2 ∈ keys) := hke
  have HP : Hid (p = .rr s) := hp
  clear HBx HW0 HW2 hRS hrow hQ hM hok hke hp
  conv => arg 4; whnf
  have p0 : W.cell? ⟨Bx, 0, none⟩ = some (.slice (some ⟨g, o1, none⟩) M cc) := cell_of (R0.out.at HBX.out aB aB')
  have p1 : W.cell? ⟨Bx, 1, none⟩ = some (.int .i64 M) := cell_of (R0.out.at HBX.out aB aB')
  have hB0 := sr_any g o1 M cc (M : Int) 201 W hM4 (Nat.lt_of_lt_of_le hg R0.out.size) ((R0.out.row HROW.out hg ag ag').c1.trans (by rw [HT.out]))
  gi_wp2
  refine ⟨trivial, ?_⟩
  gi_at_call 23
  refine (CallsIn.inRound l (callsIn_wide.2 hB0)).mono ?_
  clear hB0 p0 p1
  rintro e Y0 ⟨rfl, hb⟩
  have Q0 : Hid (RS W b nn S keys (f) Y0) := R0.out.step hb
  clear hb
  unfold viewV
  rw [if_neg (by decide)]
  have R1 : Hid (RS W b nn S keys (f) (Y0.alloc (.cells #[.slice none 0 0] 87))) := Q0.out.alloc _
  have z0 : Bx < Y0.heap.size := Nat.lt_of_lt_of_le (Array.getElem?_eq_some_iff.1 HBX.out).1 Q0.out.size
  have p0 : (Y0.alloc (.cells #[.slice none 0 0] 87)).cell? ⟨Bx, 0, none⟩ = some (.slice (some ⟨g, o1, none⟩) M cc) := cell_of (R1.out.at HBX.out aB aB')
  have p1 : (Y0.alloc (.cells #[.slice none 0 0] 87)).cell? ⟨Bx, 1, none⟩ = some (.int .i64 M) := cell_of (R1.out.at HBX.out aB aB')
  have hB1 := rr_any g o1 M cc (M : Int) 201 (Y0.alloc (.cells #[.slice none 0 0] 87)) hM4 (Nat.lt_of_lt_of_le hg R1.out.size) ((R1.out.row HROW.out hg ag ag').c1.trans (by rw [HT.out]))
  gi_wp2
  refine ⟨trivial, ?_⟩
  gi_at_call 26
  refine (CallsIn.inRound l (callsIn_wide.2 hB1)).mono ?_
  clear hB1 p0 p1
  rintro e Y1 ⟨rfl, hb⟩
  have Q1 : Hid (RS W b nn S keys (f) Y1) := R1.out.step hb
  clear hb
  unfold viewV
  rw [if_pos rfl]
  have R2 : Hid (RS W b nn S keys (f) (Y1.alloc (.cells #[.slice (some ⟨g, o1, none⟩) M cc] 92))) := Q1.out.alloc _
  have z1 : Bx < Y1.heap.size := Nat.lt_of_lt_of_le (Array.getElem?_eq_some_iff.1 HBX.out).1 Q1.out.size
  gi_wp2
  have vb0 : Y1.heap.size < (Y1.alloc (.cells #[.slice (some ⟨g, o1, none⟩) M cc] 92)).heap.size := by simp
  have KV : Hid ((Y1.alloc (.cells #[.slice (some ⟨g, o1, none⟩) M cc] 92)).heap[Y1.heap.size]? = some (.cells #[.slice (some ⟨g, o1, none⟩) M cc] 92)) := top_at rfl
  generalize Y1.heap.size = vb at KV vb0 ⊢
  have K0 : Hid ((Y1.alloc (.cells #[.slice (some ⟨g, o1, none⟩) M cc] 92)).heap[n0]? = some (.cells #[.pointer (some ⟨b, 0, none⟩)] 53)) := R2.out.at HW0'.out a0 a0'
  have K2 : Hid ((Y1.alloc (.cells #[.slice (some ⟨g, o1, none⟩) M cc] 92)).heap[n2]? = some (.cells #[.int .u64 now.n, .int .i64 now.s, .pointer none] 48)) := R2.out.at HW2'.out a2 a2'
  have KR : Hid (Row (Y1.alloc (.cells #[.slice (some ⟨g, o1, none⟩) M cc] 92)) g o1 (p.bytes ++ rest)) := R2.out.row HROW.out hg ag ag'
  have GZ : Hid (g < (Y1.alloc (.cells #[.slice (some ⟨g, o1, none⟩) M cc] 92)).heap.size) := Nat.lt_of_lt_of_le hg R2.out.size
  have RZ : Hid (RS W b nn S keys f (Y1.alloc (.cells #[.slice (some ⟨g, o1, none⟩) M cc] 92))) := R2.out
  generalize (Y1.alloc (.cells #[.slice (some ⟨g, o1, none⟩) M cc] 92)) = Z at KV vb0 K0 K2 KR GZ RZ ⊢
  refine wpIn_region_last (fun w' => Below Z.heap.size Z w') (fun w' => RS W b (nn + 1) S keys (hear now false f s) w') (psi9_19 b g o1 M cc s now) 4 mixed (Below.refl _ _).drew (by kernel_rfl) (by kernel_rfl) (by kernel_rfl) (by kernel_rfl) (by kernel_rfl) (by kernel_rfl) ?each ?last ?fin
  case each =>
    simp only [List.dropLast, List.forall_mem_cons]
    refine ⟨?_, ?_, ?_, ?_, fun _ h => by cases h⟩
    · intro a w1 hC hs hn
      have h1' : a.tmps.getD 3 undef = .pointer (some ⟨n0, 0, none⟩) := hs 3 (by kernel_rfl)
      have hc0 : w1.cell? ⟨n0, 0, none⟩ = some (.pointer (some ⟨b, 0, none⟩)) := (hC.cell (p := ⟨n0, 0, none⟩) (Array.getElem?_eq_some_iff.1 K0.out).1).trans (cell_of K0.out)
      have HC : Hid _ := hC
      clear hs hn hC
      unfold Oper.wp
      simp only [execOp, Act.eval, h1']
      go_simp
      exact ⟨_, rfl, rfl, HC.out⟩
    · intro a w1 hC hs hn
      have h1' : a.tmps.getD 13 undef = .pointer (some ⟨vb, 0, none⟩) := hs 13 (by kernel_rfl)
      have hc0 : w1.cell? ⟨vb, 0, none⟩ = some (.slice (some ⟨g, o1, none⟩) M cc) := (hC.cell (p := ⟨vb, 0, none⟩) (Array.getElem?_eq_some_iff.1 KV.out).1).trans (cell_of KV.out)
      have HC : Hid _ := hC
      clear hs hn hC
      unfold Oper.wp
      simp only [execOp, Act.eval, h1']
      go_simp
      exact ⟨_, rfl, rfl, HC.out⟩
    · intro a w1 hC hs hn
      have h1' : a.tmps.getD 72 undef = .agg #[.slice (some ⟨g, o1, none⟩) M cc] := hn 72 (by kernel_rfl)
      have hrw : Row w1 g o1 (p.bytes ++ rest) := KR.out.below hC GZ.out
      clear hs hn
      unfold Oper.wp
      simp only [execOp, Act.eval, h1']
      go_simp
      rw [HP.out] at hrw
      have h0 := hrw 4 _ rfl
      have h1 := hrw 5 _ rfl
      have h2 := hrw 6 _ rfl
      have h3 := hrw 7 _ rfl
      refine (rrssrc_any g o1 M cc _ _ _ _ w1 (by have := HMM.out; rw [HP.out] at this; simp [Pk.k] at this; omega) hMc (Nat.lt_of_lt_of_le GZ.out hC.size) h0 h1 h2 h3 (by omega) (by omega) (by omega) (by omega)).mono ?_
      rintro e w2 ⟨rfl, hb⟩
      refine ⟨_, rfl, ?_, hC.trans (hb.mono hC.size)⟩
      show Value.int .u32 _ = .int .u32 s
      rw [be4_val (by have := HOK.out; rw [HP.out] at this; exact this)]
    · intro a w1 hC hs hn
      have h1' : a.tmps.getD 5 undef = .pointer (some ⟨n2, 0, none⟩) := hs 5 (by kernel_rfl)
      have hc0 : w1.cell? ⟨n2, 0, none⟩ = some (.int .u64 now.n) := (hC.cell (p := ⟨n2, 0, none⟩) (Array.getElem?_eq_some_iff.1 K2.out).1).trans (cell_of K2.out)
      have hc1 : w1.cell? ⟨n2, 1, none⟩ = some (.int .i64 now.s) := (hC.cell (p := ⟨n2, 1, none⟩) (Array.getElem?_eq_some_iff.1 K2.out).1).trans (cell_of K2.out)
      have hc2 : w1.cell? ⟨n2, 2, none⟩ = some (.pointer none) := (hC.cell (p := ⟨n2, 2, none⟩) (Array.getElem?_eq_some_iff.1 K2.out).1).trans (cell_of K2.out)
      have HC : Hid _ := hC
      clear hs hn hC
      unfold Oper.wp
      simp only [execOp, Act.eval, h1']
      go_simp
      exact ⟨_, rfl, rfl, HC.out⟩
  case last =>
    simp only [List.getLast?, List.getLast, Option.mem_def, Option.some.injEq]
    rintro o2 rfl
    intro a w1 hC hs hn
    have h1' : a.tmps.getD 71 undef = .pointer (some ⟨b, 0, none⟩) := hn 71 (by kernel_rfl)
    have h2' : a.tmps.getD 73 undef = .int .u32 s := hn 73 (by kernel_rfl)
    have h3' : a.tmps.getD 74 undef = tv now.n now.s := hn 74 (by kernel_rfl)
    clear hs hn
    unfold Oper.wp
    simp only [execOp, Act.eval, h1', h2', h3']
    go_simp
    have R1 : RS W b nn S keys f w1 := RZ.out.step hC
    obtain ⟨c, hmp⟩ := R1.mm
    have hcl := cntS_le f keys
    refine (heard_any b nn c _ s now false f w1 R1.st hmp (by have := HOK.out; rw [HP.out] at this; exact this) hn0 (show (-1000000 : Int) ≤ ((cntS f keys : Nat) : Int) from by omega) (show ((cntS f keys : Nat) : Int) ≤ 1000000 from by omega)).mono ?_
    rintro e w2 ⟨rfl, q1, q2, q3⟩
    exact ⟨_, rfl, trivial, R1.heard hnd (HKE.out (1, s) (by rw [HE.out]; simp)) q1 q2 q3⟩
  case fin =>
    intro ff w1 hC hs hp
    have e3 : ff 3 = .pointer (some ⟨n0, 0, none⟩) := hs 3 (by kernel_rfl)
    have e5 : ff 5 = .pointer (some ⟨n2, 0, none⟩) := hs 5 (by kernel_rfl)
    have e10 : ff 10 = .pointer (some ⟨Bx, 0, none⟩) := hs 10 (by kernel_rfl)
    have RR : Hid (RS W b (nn + 1) S keys (hear now false f s) w1) := hC
    clear hs hp hC KV vb0 K0 K2 KR GZ RZ
    simp only [List.size_toArray, List.length_cons, List.length_nil, List.range, List.range.loop, List.map_cons, List.map_nil, e3, e5, e10]
    clear e3 e5 e10
    have p0 : w1.cell? ⟨Bx, 0, none⟩ = some (.slice (some ⟨g, o1, none⟩) M cc) := cell_of (RR.out.at HBX.out aB aB')
    have p1 : w1.cell? ⟨Bx, 1, none⟩ = some (.int .i64 M) := cell_of (RR.out.at HBX.out aB aB')
    have hB5 := bye_any g o1 M cc (M : Int) 201 w1 hM4 (Nat.lt_of_lt_of_le hg RR.out.size) ((RR.out.row HROW.out hg ag ag').c1.trans (by rw [HT.out]))
    gi_wp2
    refine ⟨trivial, ?_⟩
    gi_at_call 20
    refine (CallsIn.inRound l (callsIn_wide.2 hB5)).mono ?_
    clear hB5 p0 p1
    rintro e Y5 ⟨rfl, hb⟩
    have Q5 : Hid (RS W b (nn + 1) S keys (hear now false f s) Y5) := RR.out.step hb
    clear hb
    unfold viewV
    rw [if_neg (by decide)]
    have R6 : Hid (RS W b (nn + 1) S keys (hear now false f s) (Y5.alloc (.cells #[.slice none 0 0] 82))) := Q5.out.alloc _
    have z5 : Bx < Y5.heap.size := Nat.lt_of_lt_of_le (Array.getElem?_eq_some_iff.1 HBX.out).1 Q5.out.size
    gi_wp2
    refine HQ.out _ _ ?_
    rw [HE.out]
    exact R6.out

end Go.Proofs.YbulkdsruGreatDoor
