import Derived.Test.YbulkdsruGreatDoorRecvC
namespace Go.Proofs.YbulkdsruGreatDoor
open Go.RowKit Go.Op Go.Shelf
set_option linter.unusedVariables false
set_option linter.unusedSimpArgs false
attribute [local go_sem] Oper.semAt_some

def psi9_25 (b g o1 M cc : Nat) (j s : Int) : Nat → Value → Prop
  | 87 => fun v => v = .pointer (some ⟨b, 0, none⟩)
  | 88 => fun v => v = .agg #[.slice (some ⟨g, o1, none⟩) M cc]
  | 89 => fun v => v = .int .i64 j
  | 90 => fun v => v = .int .u32 s
  | _ => fun _ => True

/-- The goodbyes of the first j sources. -/
def byeEvs (lst : List Int) (j : Nat) : List (Int × Int) := (lst.take j).map (fun s => ((2 : Int), s))
theorem run_bye (now : Tm) (f : Ms) (lst : List Int) (j : Nat) (h : j < lst.length) : run now f (byeEvs lst (j + 1)) = leave (run now f (byeEvs lst j)) lst[j] := by
  unfold byeEvs
  rw [take_succ lst j h, List.map_append, List.map_singleton, run_snoc]
  rfl

set_option maxRecDepth 100000 in
set_option maxHeartbeats 2000000 in
theorem body_bye (l mm b g o1 M cc n0 n2 Bx nn : Nat) (p : Pk) (rest : List Int) (S : StV) (keys : List Int) (f : Ms) (now : Tm) (W : World) {Q : Exit → Act → World → Prop}
    (HW0 : W.heap[n0]? = some (.cells #[.pointer (some ⟨b, 0, none⟩)] 53)) (HW2 : W.heap[n2]? = some (.cells #[.int .u64 now.n, .int .i64 now.s, .pointer none] 48)) (HBx : W.heap[Bx]? = some (.cells #[.slice (some ⟨g, o1, none⟩) M cc, .int .i64 M] 81))
    (a0 : n0 ≠ b) (a0' : n0 ≠ S.mb) (a2 : n2 ≠ b) (a2' : n2 ≠ S.mb) (aB : Bx ≠ b) (aB' : Bx ≠ S.mb) (ag : g ≠ b) (ag' : g ≠ S.mb) (hg : g < W.heap.size)
    (hrow : Row W g o1 (p.bytes ++ rest)) (hM : M = 4 + 4 * p.k) (hMc : M ≤ cc) (hok : p.ok) (hRS : RS W b nn S keys f W) (hmm : 1 ≤ mm) (hn : nn < maxLen) (hnd : keys.Nodup) (hkl : keys.length ≤ 1000000) (hke : ∀ e ∈ p.evs, e.2 ∈ keys)
    (hQ : ∀ a' W', RS W b (nn + 1) S keys (run now f p.evs) W' → Q .normal a' W') (lst : List Int) (hp : p = .bye lst) {u0 u1 u2 u4 u6 u7 u8 u9 u11 u12 u13 u14 u15 u16 u17 u18 u19 u20 u21 u22 u23 u24 u25 u26 u27 u28 u29 u30 u31 u32 u33 u34 u35 u36 u37 u38 u39 u40 u41 u42 u43 u44 u45 u46 u47 u48 u49 u50 u51 u52 u53 u54 u55 u56 u57 u58 u59 u60 u61 u62 u63 u64 u65 u66 u67 u68 u69 u70 u71 u72 u73 u74 u75 u76 u77 u78 u79 u80 u81 u82 u83 u84 u85 u86 u87 u88 u89 u90 u91 u92 u93 u94 u95 : Value} :
    Code.wpIn (Fence.wide.inRound l) mm Ybaz.prog body9 Q { tmps := #[u0, u1, u2, .pointer (some ⟨n0, 0, none⟩), u4, .pointer (some ⟨n2, 0, none⟩), u6, u7, u8, u9, .pointer (some ⟨Bx, 0, none⟩), u11, u12, u13, u14, u15, u16, u17, u18, u19, u20, u21, u22, u23, u24, u25, u26, u27, u28, u29, u30, u31, u32, u33, u34, u35, u36, u37, u38, u39, u40, u41, u42, u43, u44, u45, u46, u47, u48, u49, u50, u51, u52, u53, u54, u55, u56, u57, u58, u59, u60, u61, u62, u63, u64, u65, u66, u67, u68, u69, u70, u71, u72, u73, u74, u75, u76, u77, u78, u79, u80, u81, u82, u83, u84, u85, u86, u87, u88, u89, u90, u91, u92, u93, u94, u95], defers := [] } W := by
  have hn0 := hn
  have HBX : Hid (W.heap[Bx]? = some (.cells #[.slice (some ⟨g, o1, none⟩) M cc, .int .i64 M] 81)) := HBx
  have HW0' : Hid (W.heap[n0]? = some (.cells #[.pointer (some ⟨b, 0, none⟩)] 53)) := HW0
  have HW2' : Hid (W.heap[n2]? = some (.cells #[.int .u64 now.n, .int .i64 now.s, .pointer none] 48)) := HW2
  have R0 : Hid (RS W b nn S keys f W) := hRS
  have HROW : Hid (Row W g o1 (p.bytes ++ rest)) := hrow
  have HT : Hid (p.typ = 203) := by subst hp; rfl
  have HQ : Hid (∀ a' W', RS W b (nn + 1) S keys (run now f p.evs) W' → Q .normal a' W') := hQ
  have HE : Hid (p.evs = lst.map fun s => ((2 : Int), s)) := by subst hp; rfl
  have HMM : Hid (M = 4 + 4 * p.k) := hM
  have hM4 : 2 ≤ M := by omega
  have HOK : Hid p.ok := hok
  have HKE : Hid (∀ e ∈ p.evs, e.2 ∈ keys) := hke
  have HP : Hid (p = .bye lst) := hp
  clear HBx HW0 HW2 hRS hrow hQ hM hok hke hp
  conv => arg 4; whnf
  have p0 : W.cell? ⟨Bx, 0, none⟩ = some (.slice (some ⟨g, o1, none⟩) M cc) := cell_of (R0.out.at HBX.out aB aB')
  have p1 : W.cell? ⟨Bx, 1, none⟩ = some (.int .i64 M) := cell_of (R0.out.at HBX.out aB aB')
  have hB0 := sr_any g o1 M cc (M : Int) 203 W hM4 (Nat.lt_of_lt_of_le hg R0.out.size) ((R0.out.row HROW.out hg ag ag').c1.trans (by rw [HT.out]))
  gi_wp2
  refine ⟨trivial, ?_⟩
  gi_at_call 23
  refine (CallsIn.inRound l (callsIn_wide.2 hB0)).mono ?_
  clear hB0 p0 p1
  rintro e Y0 ⟨rfl, hb⟩
  have Q0 : Hid (RS W b nn S keys (f) Y0) := R0.out.step hb
  clear hb
  unfold viewV
  rw [if_neg (by decide)]
  have R1 : Hid (RS W b nn S keys (f) (Y0.alloc (.cells #[.slice none 0 0] 87))) := Q0.out.alloc _
  have z0 : Bx < Y0.heap.size := Nat.lt_of_lt_of_le (Array.getElem?_eq_some_iff.1 HBX.out).1 Q0.out.size
  have p0 : (Y0.alloc (.cells #[.slice none 0 0] 87)).cell? ⟨Bx, 0, none⟩ = some (.slice (some ⟨g, o1, none⟩) M cc) := cell_of (R1.out.at HBX.out aB aB')
  have p1 : (Y0.alloc (.cells #[.slice none 0 0] 87)).cell? ⟨Bx, 1, none⟩ = some (.int .i64 M) := cell_of (R1.out.at HBX.out aB aB')
  have hB1 := rr_any g o1 M cc (M : Int) 203 (Y0.alloc (.cells #[.slice none 0 0] 87)) hM4 (Nat.lt_of_lt_of_le hg R1.out.size) ((R1.out.row HROW.out hg ag ag').c1.trans (by rw [HT.out]))
  gi_wp2
  refine ⟨trivial, ?_⟩
  gi_at_call 26
  refine (CallsIn.inRound l (callsIn_wide.2 hB1)).mono ?_
  clear hB1 p0 p1
  rintro e Y1 ⟨rfl, hb⟩
  have Q1 : Hid (RS W b nn S keys (f) Y1) := R1.out.step hb
  clear hb
  unfold viewV
  rw [if_neg (by decide)]
  have R2 : Hid (RS W b nn S keys (f) (Y1.alloc (.cells #[.slice none 0 0] 92))) := Q1.out.alloc _
  have z1 : Bx < Y1.heap.size := Nat.lt_of_lt_of_le (Array.getElem?_eq_some_iff.1 HBX.out).1 Q1.out.size
  have p0 : (Y1.alloc (.cells #[.slice none 0 0] 92)).cell? ⟨Bx, 0, none⟩ = some (.slice (some ⟨g, o1, none⟩) M cc) := cell_of (R2.out.at HBX.out aB aB')
  have p1 : (Y1.alloc (.cells #[.slice none 0 0] 92)).cell? ⟨Bx, 1, none⟩ = some (.int .i64 M) := cell_of (R2.out.at HBX.out aB aB')
  have hB2 := bye_any g o1 M cc (M : Int) 203 (Y1.alloc (.cells #[.slice none 0 0] 92)) hM4 (Nat.lt_of_lt_of_le hg R2.out.size) ((R2.out.row HROW.out hg ag ag').c1.trans (by rw [HT.out]))
  gi_wp2
  refine ⟨trivial, ?_⟩
  gi_at_call 20
  refine (CallsIn.inRound l (callsIn_wide.2 hB2)).mono ?_
  clear hB2 p0 p1
  rintro e Y2 ⟨rfl, hb⟩
  have Q2 : Hid (RS W b nn S keys (f) Y2) := R2.out.step hb
  clear hb
  unfold viewV
  rw [if_pos rfl]
  have R3 : Hid (RS W b nn S keys (f) (Y2.alloc (.cells #[.slice (some ⟨g, o1, none⟩) M cc] 82))) := Q2.out.alloc _
  have z2 : Bx < Y2.heap.size := Nat.lt_of_lt_of_le (Array.getElem?_eq_some_iff.1 HBX.out).1 Q2.out.size
  gi_wp2
  have vb0 : Y2.heap.size < (Y2.alloc (.cells #[.slice (some ⟨g, o1, none⟩) M cc] 82)).heap.size := by simp
  have KV : Hid ((Y2.alloc (.cells #[.slice (some ⟨g, o1, none⟩) M cc] 82)).heap[Y2.heap.size]? = some (.cells #[.slice (some ⟨g, o1, none⟩) M cc] 82)) := top_at rfl
  generalize Y2.heap.size = vb at KV vb0 ⊢
  have K0 : Hid ((Y2.alloc (.cells #[.slice (some ⟨g, o1, none⟩) M cc] 82)).heap[n0]? = some (.cells #[.pointer (some ⟨b, 0, none⟩)] 53)) := R3.out.at HW0'.out a0 a0'
  have KR : Hid (Row (Y2.alloc (.cells #[.slice (some ⟨g, o1, none⟩) M cc] 82)) g o1 (p.bytes ++ rest)) := R3.out.row HROW.out hg ag ag'
  have GZ : Hid (g < (Y2.alloc (.cells #[.slice (some ⟨g, o1, none⟩) M cc] 82)).heap.size) := Nat.lt_of_lt_of_le hg R3.out.size
  have RZ : Hid (RS W b nn S keys f (Y2.alloc (.cells #[.slice (some ⟨g, o1, none⟩) M cc] 82))) := R3.out
  have hok := HOK.out
  rw [HP.out] at hok
  obtain ⟨hlen, hsok⟩ := hok
  have hMm : Hid (M = 4 + 4 * lst.length) := by have := HMM.out; rw [HP.out] at this; exact this
  have hcnt : 128 + ((p.cnt : Nat) : Int) = 128 + ((lst.length : Nat) : Int) := by rw [HP.out]; rfl
  have hv0 : (Y2.alloc (.cells #[.slice (some ⟨g, o1, none⟩) M cc] 82)).cell? ⟨vb, 0, none⟩ = some (.slice (some ⟨g, o1, none⟩) M cc) := cell_of KV.out
  have hnum := nums_any g o1 M cc _ (Y2.alloc (.cells #[.slice (some ⟨g, o1, none⟩) M cc] 82)) (by omega) GZ.out KR.out.c0
  rw [hcnt, and31 lst.length hlen] at hnum
  have vbb : vb ≠ b := by rintro rfl; have h1 := KV.out; have h2 := RZ.out.st; unfold Stt at h2; rw [h1] at h2; simp [StV.cells] at h2
  have vbm : vb ≠ S.mb := by
    rintro rfl
    obtain ⟨c, D, ⟨es, clock, hb, _⟩, _⟩ := RZ.out.mm
    rw [KV.out] at hb; cases hb
  generalize (Y2.alloc (.cells #[.slice (some ⟨g, o1, none⟩) M cc] 82)) = Z at KV vb0 K0 KR GZ RZ hv0 hnum ⊢
  refine ⟨trivial, ?_⟩
  gi_at_call 28
  refine (CallsIn.inRound l (callsIn_wide.2 hnum)).mono ?_
  clear hnum
  rintro e Z1 ⟨rfl, hb⟩
  have L0' : Hid (Z1.heap[n0]? = some (.cells #[.pointer (some ⟨b, 0, none⟩)] 53)) := (hb.block n0 (Array.getElem?_eq_some_iff.1 K0.out).1).trans K0.out
  have LV' : Hid (Z1.heap[vb]? = some (.cells #[.slice (some ⟨g, o1, none⟩) M cc] 82)) := (hb.block vb vb0).trans KV.out
  have LR' : Hid (Row Z1 g o1 (p.bytes ++ rest)) := KR.out.below hb GZ.out
  have LG' : Hid (g < Z1.heap.size) := Nat.lt_of_lt_of_le GZ.out hb.size
  have RZ1 : Hid (RS W b nn S keys f Z1) := RZ.out.step hb
  clear hb KV vb0 K0 KR GZ RZ hv0 hcnt
  obtain ⟨m, hm⟩ : ∃ m, lst.length = m := ⟨_, rfl⟩
  have HLM : Hid (lst.length = m) := hm
  rw [hm]
  have hm31 : m ≤ 31 := by omega
  clear hm
  gi_wp2
  gi_loopw [84] (fun i wr => ∃ (j : Nat), j ≤ m ∧ i = .int .i64 j ∧ Hid (RS Z1 b nn S keys (run now f (byeEvs lst j)) wr)) (fun i wr => m - (intOf i).toNat)
  case atStart =>
    exact ⟨0, Nat.zero_le _, rfl, RZ1.out.fresh⟩
  case round =>
    obtain ⟨j, hj, rfl, hRj⟩ := hrel
    by_cases hje : j = m
    · subst hje
      gi_wp2
      refine HQ.out _ _ ?_
      rw [HE.out]
      have e : byeEvs lst j = lst.map fun s => ((2 : Int), s) := by unfold byeEvs; rw [List.take_of_length_le (by have := HLM.out; omega)]
      rw [← e]
      exact (RS.join RZ1.out.two hRj.out).more (by omega)
    · have hjm : j < lst.length := by have := HLM.out; omega
      have hlt : (j : Int) < m := by omega
      have hltn : j < m := by omega
      have L0 : Hid (wr.heap[n0]? = some (.cells #[.pointer (some ⟨b, 0, none⟩)] 53)) := hRj.out.at L0'.out a0 a0'
      have LV : Hid (wr.heap[vb]? = some (.cells #[.slice (some ⟨g, o1, none⟩) M cc] 82)) := hRj.out.at LV'.out vbb vbm
      have LR : Hid (Row wr g o1 (p.bytes ++ rest)) := hRj.out.row LR'.out LG'.out ag ag'
      have LG : Hid (g < wr.heap.size) := Nat.lt_of_lt_of_le LG'.out hRj.out.size
      have E1 : IntKind.i64.wrap ((j : Int) + 1) = (j : Int) + 1 := by simp [IntKind.wrap, IntKind.bits, IntKind.signed]; omega
      gi_wp2
      refine wpIn_region_last (fun w' => Below wr.heap.size wr w') (fun w' => RS Z1 b nn S keys (run now f (byeEvs lst (j + 1))) w') (psi9_25 b g o1 M cc j lst[j]) 4 mixed (Below.refl _ _).drew (by kernel_rfl) (by kernel_rfl) (by kernel_rfl) (by kernel_rfl) (by kernel_rfl) (by kernel_rfl) ?each ?last ?fin
      case each =>
        simp only [List.dropLast, List.forall_mem_cons]
        refine ⟨?_, ?_, ?_, ?_, fun _ h => by cases h⟩
        · intro a w1 hC hs hn
          have h1' : a.tmps.getD 3 undef = .pointer (some ⟨n0, 0, none⟩) := hs 3 (by kernel_rfl)
          have hc0 : w1.cell? ⟨n0, 0, none⟩ = some (.pointer (some ⟨b, 0, none⟩)) := (hC.cell (p := ⟨n0, 0, none⟩) (Array.getElem?_eq_some_iff.1 L0.out).1).trans (cell_of L0.out)
          have HC : Hid _ := hC
          clear hs hn hC
          unfold Oper.wp
          simp only [execOp, Act.eval, h1']
          go_simp
          exact ⟨_, rfl, rfl, HC.out⟩
        · intro a w1 hC hs hn
          have h1' : a.tmps.getD 15 undef = .pointer (some ⟨vb, 0, none⟩) := hs 15 (by kernel_rfl)
          have hc0 : w1.cell? ⟨vb, 0, none⟩ = some (.slice (some ⟨g, o1, none⟩) M cc) := (hC.cell (p := ⟨vb, 0, none⟩) (Array.getElem?_eq_some_iff.1 LV.out).1).trans (cell_of LV.out)
          have HC : Hid _ := hC
          clear hs hn hC
          unfold Oper.wp
          simp only [execOp, Act.eval, h1']
          go_simp
          exact ⟨_, rfl, rfl, HC.out⟩
        · intro a w1 hC hs hn
          have h1' : a.tmps.getD 17 undef = .int .i64 j := hs 17 (by kernel_rfl)
          clear hs hn
          unfold Oper.wp
          simp only [execOp, Act.eval, h1']
          exact ⟨_, rfl, fun t ht => by cases ht; rfl, hC⟩
        · intro a w1 hC hs hn
          have h1' : a.tmps.getD 88 undef = .agg #[.slice (some ⟨g, o1, none⟩) M cc] := hn 88 (by kernel_rfl)
          have h2' : a.tmps.getD 89 undef = .int .i64 j := hn 89 (by kernel_rfl)
          have hrw : Row w1 g o1 (p.bytes ++ rest) := LR.out.below hC LG.out
          clear hs hn
          unfold Oper.wp
          simp only [execOp, Act.eval, h1', h2']
          go_simp
          have h00 := hrw.c0
          rw [HP.out] at hrw h00
          have hr4 : Row w1 g (o1 + 4) (be4s lst) := (show Row w1 g o1 ([128 + ((lst.length : Nat) : Int), 203, 0, ((lst.length : Nat) : Int)] ++ be4s lst) from hrw.left).right
          have hrj := be4s_row hr4 j hjm
          have h0 := hrj 0 _ rfl
          have h1 := hrj 1 _ rfl
          have h2 := hrj 2 _ rfl
          have h3 := hrj 3 _ rfl
          have hcon := byessrc_any g o1 lst.length cc j _ _ _ _ w1 hlen hjm (by have := hMm.out; omega) (Nat.lt_of_lt_of_le LG.out hC.size) h00 h0 h1 h2 h3 (by omega) (by omega) (by omega) (by omega)
          rw [← hMm.out] at hcon
          refine hcon.mono ?_
          rintro e w2 ⟨rfl, hb⟩
          refine ⟨_, rfl, ?_, hC.trans (hb.mono hC.size)⟩
          show Value.int .u32 _ = .int .u32 lst[j]
          rw [be4_val (hsok _ (List.getElem_mem hjm))]
      case last =>
        simp only [List.getLast?, List.getLast, Option.mem_def, Option.some.injEq]
        rintro o2 rfl
        intro a w1 hC hs hn
        have h1' : a.tmps.getD 87 undef = .pointer (some ⟨b, 0, none⟩) := hn 87 (by kernel_rfl)
        have h2' : a.tmps.getD 90 undef = .int .u32 lst[j] := hn 90 (by kernel_rfl)
        clear hs hn
        unfold Oper.wp
        simp only [execOp, Act.eval, h1', h2']
        go_simp
        have R1 : RS Z1 b nn S keys (run now f (byeEvs lst j)) w1 := hRj.out.step hC
        obtain ⟨c, hmp⟩ := R1.mm
        have hcl := cntS_le (run now f (byeEvs lst j)) keys
        refine (left_any b nn c _ lst[j] (run now f (byeEvs lst j)) w1 R1.st hmp (hsok _ (List.getElem_mem hjm)) (show (-1000000 : Int) ≤ ((cntS (run now f (byeEvs lst j)) keys : Nat) : Int) from by omega) (show ((cntS (run now f (byeEvs lst j)) keys : Nat) : Int) ≤ 1000000 from by omega)).mono ?_
        rintro e w2 ⟨rfl, q1, q2, q3⟩
        refine ⟨_, rfl, trivial, ?_⟩
        rw [run_bye now f lst j hjm]
        exact R1.left hnd (HKE.out (2, lst[j]) (by rw [HE.out]; exact List.mem_map.2 ⟨_, List.getElem_mem hjm, rfl⟩)) q1 q2 q3
      case fin =>
        intro ff w1 hC hs hp
        have e0 : ff 0 = u0 := hs 0 (by kernel_rfl)
        have e1 : ff 1 = u1 := hs 1 (by kernel_rfl)
        have e2 : ff 2 = u2 := hs 2 (by kernel_rfl)
        have e3 : ff 3 = .pointer (some ⟨n0, 0, none⟩) := hs 3 (by kernel_rfl)
        have e4 : ff 4 = u4 := hs 4 (by kernel_rfl)
        have e5 : ff 5 = .pointer (some ⟨n2, 0, none⟩) := hs 5 (by kernel_rfl)
        have e6 : ff 6 = u6 := hs 6 (by kernel_rfl)
        have e7 : ff 7 = u7 := hs 7 (by kernel_rfl)
        have e8 : ff 8 = u8 := hs 8 (by kernel_rfl)
        have e9 : ff 9 = u9 := hs 9 (by kernel_rfl)
        have e10 : ff 10 = .pointer (some ⟨Bx, 0, none⟩) := hs 10 (by kernel_rfl)
        have e11 : ff 11 = .pointer (some ⟨Y0.heap.size, 0, none⟩) := hs 11 (by kernel_rfl)
        have e12 : ff 12 = .bool false := hs 12 (by kernel_rfl)
        have e13 : ff 13 = .pointer (some ⟨Y1.heap.size, 0, none⟩) := hs 13 (by kernel_rfl)
        have e14 : ff 14 = .bool false := hs 14 (by kernel_rfl)
        have e15 : ff 15 = .pointer (some ⟨vb, 0, none⟩) := hs 15 (by kernel_rfl)
        have e16 : ff 16 = .bool true := hs 16 (by kernel_rfl)
        have e18 : ff 18 = u18 := hs 18 (by kernel_rfl)
        have e19 : ff 19 = u19 := hs 19 (by kernel_rfl)
        have e20 : ff 20 = u20 := hs 20 (by kernel_rfl)
        have e21 : ff 21 = u21 := hs 21 (by kernel_rfl)
        have e22 : ff 22 = u22 := hs 22 (by kernel_rfl)
        have e23 : ff 23 = u23 := hs 23 (by kernel_rfl)
        have e24 : ff 24 = u24 := hs 24 (by kernel_rfl)
        have e25 : ff 25 = u25 := hs 25 (by kernel_rfl)
        have e26 : ff 26 = u26 := hs 26 (by kernel_rfl)
        have e27 : ff 27 = u27 := hs 27 (by kernel_rfl)
        have e28 : ff 28 = u28 := hs 28 (by kernel_rfl)
        have e29 : ff 29 = u29 := hs 29 (by kernel_rfl)
        have e30 : ff 30 = u30 := hs 30 (by kernel_rfl)
        have e31 : ff 31 = u31 := hs 31 (by kernel_rfl)
        have e32 : ff 32 = u32 := hs 32 (by kernel_rfl)
        have e33 : ff 33 = u33 := hs 33 (by kernel_rfl)
        have e34 : ff 34 = u34 := hs 34 (by kernel_rfl)
        have e35 : ff 35 = u35 := hs 35 (by kernel_rfl)
        have e36 : ff 36 = u36 := hs 36 (by kernel_rfl)
        have e37 : ff 37 = u37 := hs 37 (by kernel_rfl)
        have e38 : ff 38 = u38 := hs 38 (by kernel_rfl)
        have e39 : ff 39 = u39 := hs 39 (by kernel_rfl)
        have e40 : ff 40 = u40 := hs 40 (by kernel_rfl)
        have e41 : ff 41 = u41 := hs 41 (by kernel_rfl)
        have e42 : ff 42 = u42 := hs 42 (by kernel_rfl)
        have e43 : ff 43 = u43 := hs 43 (by kernel_rfl)
        have e44 : ff 44 = u44 := hs 44 (by kernel_rfl)
        have e45 : ff 45 = u45 := hs 45 (by kernel_rfl)
        have e46 : ff 46 = u46 := hs 46 (by kernel_rfl)
        have e47 : ff 47 = u47 := hs 47 (by kernel_rfl)
        have e48 : ff 48 = u48 := hs 48 (by kernel_rfl)
        have e49 : ff 49 = u49 := hs 49 (by kernel_rfl)
        have e50 : ff 50 = u50 := hs 50 (by kernel_rfl)
        have e51 : ff 51 = u51 := hs 51 (by kernel_rfl)
        have e52 : ff 52 = u52 := hs 52 (by kernel_rfl)
        have e53 : ff 53 = u53 := hs 53 (by kernel_rfl)
        have e54 : ff 54 = .tuple #[.agg #[.slice none 0 0], .bool false] := hs 54 (by kernel_rfl)
        have e55 : ff 55 = .agg #[.slice (some ⟨g, o1, none⟩) M cc, .int .i64 M] := hs 55 (by kernel_rfl)
        have e56 : ff 56 = .tuple #[.agg #[.slice none 0 0], .bool false] := hs 56 (by kernel_rfl)
        have e57 : ff 57 = .agg #[.slice none 0 0] := hs 57 (by kernel_rfl)
        have e58 : ff 58 = .bool false := hs 58 (by kernel_rfl)
        have e59 : ff 59 = .bool false := hs 59 (by kernel_rfl)
        have e60 : ff 60 = u60 := hs 60 (by kernel_rfl)
        have e61 : ff 61 = u61 := hs 61 (by kernel_rfl)
        have e62 : ff 62 = u62 := hs 62 (by kernel_rfl)
        have e63 : ff 63 = u63 := hs 63 (by kernel_rfl)
        have e64 : ff 64 = u64 := hs 64 (by kernel_rfl)
        have e65 : ff 65 = .tuple #[.agg #[.slice none 0 0], .bool false] := hs 65 (by kernel_rfl)
        have e66 : ff 66 = .agg #[.slice (some ⟨g, o1, none⟩) M cc, .int .i64 M] := hs 66 (by kernel_rfl)
        have e67 : ff 67 = .tuple #[.agg #[.slice none 0 0], .bool false] := hs 67 (by kernel_rfl)
        have e68 : ff 68 = .agg #[.slice none 0 0] := hs 68 (by kernel_rfl)
        have e69 : ff 69 = .bool false := hs 69 (by kernel_rfl)
        have e70 : ff 70 = .bool false := hs 70 (by kernel_rfl)
        have e71 : ff 71 = u71 := hs 71 (by kernel_rfl)
        have e72 : ff 72 = u72 := hs 72 (by kernel_rfl)
        have e73 : ff 73 = u73 := hs 73 (by kernel_rfl)
        have e74 : ff 74 = u74 := hs 74 (by kernel_rfl)
        have e75 : ff 75 = u75 := hs 75 (by kernel_rfl)
        have e76 : ff 76 = .tuple #[.agg #[.slice (some ⟨g, o1, none⟩) M cc], .bool true] := hs 76 (by kernel_rfl)
        have e77 : ff 77 = .agg #[.slice (some ⟨g, o1, none⟩) M cc, .int .i64 M] := hs 77 (by kernel_rfl)
        have e78 : ff 78 = .tuple #[.agg #[.slice (some ⟨g, o1, none⟩) M cc], .bool true] := hs 78 (by kernel_rfl)
        have e79 : ff 79 = .agg #[.slice (some ⟨g, o1, none⟩) M cc] := hs 79 (by kernel_rfl)
        have e80 : ff 80 = .bool true := hs 80 (by kernel_rfl)
        have e81 : ff 81 = .bool true := hs 81 (by kernel_rfl)
        have e82 : ff 82 = .agg #[.slice (some ⟨g, o1, none⟩) M cc] := hs 82 (by kernel_rfl)
        have e83 : ff 83 = .int .i64 m := hs 83 (by kernel_rfl)
        have e84 : ff 84 = .int .i64 j := hs 84 (by kernel_rfl)
        have e93 : ff 93 = u93 := hs 93 (by kernel_rfl)
        have e94 : ff 94 = u94 := hs 94 (by kernel_rfl)
        have e95 : ff 95 = u95 := hs 95 (by kernel_rfl)
        have RN : Hid (RS Z1 b nn S keys (run now f (byeEvs lst (j + 1))) w1) := hC
        clear hs hp hC L0 LV LR LG hRj
        simp only [List.size_toArray, List.length_cons, List.length_nil, List.range, List.range.loop, List.map_cons, List.map_nil, e0, e1, e2, e3, e4, e5, e6, e7, e8, e9, e10, e11, e12, e13, e14, e15, e16, e18, e19, e20, e21, e22, e23, e24, e25, e26, e27, e28, e29, e30, e31, e32, e33, e34, e35, e36, e37, e38, e39, e40, e41, e42, e43, e44, e45, e46, e47, e48, e49, e50, e51, e52, e53, e54, e55, e56, e57, e58, e59, e60, e61, e62, e63, e64, e65, e66, e67, e68, e69, e70, e71, e72, e73, e74, e75, e76, e77, e78, e79, e80, e81, e82, e83, e84, e93, e94, e95]
        clear e0 e1 e2 e3 e4 e5 e6 e7 e8 e9 e10 e11 e12 e13 e14 e15 e16 e18 e19 e20 e21 e22 e23 e24 e25 e26 e27 e28 e29 e30 e31 e32 e33 e34 e35 e36 e37 e38 e39 e40 e41 e42 e43 e44 e45 e46 e47 e48 e49 e50 e51 e52 e53 e54 e55 e56 e57 e58 e59 e60 e61 e62 e63 e64 e65 e66 e67 e68 e69 e70 e71 e72 e73 e74 e75 e76 e77 e78 e79 e80 e81 e82 e83 e84 e93 e94 e95
        gi_wp2
        go_roundw
        case rel => exact ⟨j + 1, hltn, rfl, RN.out⟩
        case measure => simp [intOf]; omega
end Go.Proofs.YbulkdsruGreatDoor
