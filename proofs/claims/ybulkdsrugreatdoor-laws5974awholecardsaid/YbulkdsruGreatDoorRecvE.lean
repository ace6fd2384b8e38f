import Derived.Test.YbulkdsruGreatDoorRecvD
namespace Go.Proofs.YbulkdsruGreatDoor
open Go.RowKit Go.Op Go.Shelf
set_option linter.unusedVariables false
set_option linter.unusedSimpArgs false
attribute [local go_sem] Oper.semAt_some

def psi9_11 (b g o L cap : Nat) : Nat → Value → Prop
  | 47 => fun v => v = .pointer (some ⟨b, 0, none⟩)
  | 48 => fun v => v = .agg #[.slice (some ⟨g, o, none⟩) L cap]
  | 49 => fun v => v = .int .i64 L
  | _ => fun _ => True

set_option maxRecDepth 100000 in
set_option maxHeartbeats 2000000 in
theorem received_stay (b g o cap n c p : Nat) (ps : List Pk) (S : StV) (keys : List Int) (f0 : Ms) (now : Tm) (w : World) (hs : Stt w b S) (hlv : S.lv = false) (hsn : S.snd = (cntS f0 keys : Nat)) (hm : mp w S.mb n c (vals f0)) (hr : Row w g o (flat ps)) (hg : g < w.heap.size) (hgb : g ≠ b) (hgm : g ≠ S.mb)
    (hok : ∀ p ∈ ps, p.ok) (hcap : (flat ps).length ≤ cap) (hL : (flat ps).length ≤ 100000000) (ha : rg S.avg < INF) (hnd : keys.Nodup) (hkl : keys.length ≤ 500000) (hke : ∀ p ∈ ps, ∀ e ∈ p.evs, e.2 ∈ keys) (hn : n + ps.length < 900000)
    (hp : S.pm = p) (hp2 : p ≤ 255) (hnow : now.ok) (htn : S.tn.ok) (htp : S.tp.ok) :
    Calls Ybaz.prog 9 #[.pointer (some ⟨b, 0, none⟩), .agg #[.slice (some ⟨g, o, none⟩) (flat ps).length cap], tv now.n now.s] w fun e w' => e = .returned (.tuple #[]) ∧
      (∃ c n', mp w' S.mb n' c (vals (run now f0 (ps.flatMap Pk.evs))) ∧ Stt w' b (recoS { S with avg := avgF S.avg (flat ps).length, snd := (cntS (run now f0 (ps.flatMap Pk.evs)) keys : Nat) } c p now)) ∧ Two b S.mb w w' := by
  refine (callsIn_wide (n := 10)).1 ?_
  refine callsIn_of_wp_marks Ybaz.func9 rfl trivial ?_ rfl
  simp only [Ybaz.ntmps9, List.size_toArray, List.length_cons, List.length_nil, Nat.reduceAdd, Nat.reduceSub, Array.replicate_succ, Array.replicate_zero, List.push_toArray, List.append_toArray, List.nil_append, List.cons_append]
  obtain ⟨L, hLL⟩ : ∃ L, (flat ps).length = L := ⟨_, rfl⟩
  have HLL : Hid ((flat ps).length = L) := hLL
  rw [hLL]
  have HBB : Hid (Below w.heap.size w (((w.alloc (.cells #[.pointer (some ⟨b, 0, none⟩)] 53)).alloc (.cells #[.slice (some ⟨g, o, none⟩) L cap] 35)).alloc (.cells #[.int .u64 now.n, .int .i64 now.s, .pointer none] 48))) := (((Below.refl _ w).alloc (Nat.le_refl _) _).alloc (by simp) _).alloc (by simp; omega) _
  have g2 : b < w.heap.size := hs.lt
  have g3 : S.mb < w.heap.size := mp_lt hm
  have gbm : b ≠ S.mb := hs.ne hm
  have c14 : (((w.alloc (.cells #[.pointer (some ⟨b, 0, none⟩)] 53)).alloc (.cells #[.slice (some ⟨g, o, none⟩) L cap] 35)).alloc (.cells #[.int .u64 now.n, .int .i64 now.s, .pointer none] 48)).cell? ⟨b, 14, none⟩ = some (.bool false) := by rw [← hlv]; exact (HBB.out.cell (p := ⟨b, 14, none⟩) g2).trans (cell_of hs)
  have HS : Hid (w.heap[b]? = some (.cells S.cells 58)) := hs
  have HM : Hid (mp w S.mb n c (vals f0)) := hm
  have HR : Hid (Row w g o (flat ps)) := hr
  have HOK : Hid (∀ p ∈ ps, p.ok) := hok
  have HSN : Hid (S.snd = (cntS f0 keys : Nat)) := hsn
  have HKE : Hid (∀ p ∈ ps, ∀ e ∈ p.evs, e.2 ∈ keys) := hke
  have HP : Hid (S.pm = p) := hp
  have HNOW : Hid now.ok := hnow
  have HTN : Hid S.tn.ok := htn
  have HTP : Hid S.tp.ok := htp
  clear hs hr hok hlv hLL hm hsn hke hp hnow htn htp
  unfold tv
  gi_wp2
  have hV : ∃ V0, (((w.alloc (.cells #[.pointer (some ⟨b, 0, none⟩)] 53)).alloc (.cells #[.slice (some ⟨g, o, none⟩) L cap] 35)).alloc (.cells #[.int .u64 now.n, .int .i64 now.s, .pointer none] 48)) = V0 := ⟨_, rfl⟩
  obtain ⟨V0, hV⟩ := hV
  have HBV : Hid (Below w.heap.size w V0) := by rw [← hV]; exact HBB.out
  have HZ : Hid (V0.heap.size = w.heap.size + 3) := by rw [← hV]; show _ = _; simp only [World.size_alloc]
  have K0 : Hid (V0.heap[w.heap.size]? = some (.cells #[.pointer (some ⟨b, 0, none⟩)] 53)) := by rw [← hV]; exact push_at (by simp <;> omega) (push_at (by simp <;> omega) (top_at rfl))
  have K1 : Hid (V0.heap[w.heap.size + 1]? = some (.cells #[.slice (some ⟨g, o, none⟩) L cap] 35)) := by rw [← hV]; exact push_at (by simp <;> omega) (top_at (by simp))
  have K2 : Hid (V0.heap[w.heap.size + 1 + 1]? = some (.cells #[.int .u64 now.n, .int .i64 now.s, .pointer none] 48)) := by rw [← hV]; exact top_at (by simp)
  rw [hV]
  clear hV HBB c14
  obtain ⟨n0, hn0⟩ : ∃ n0, w.heap.size = n0 := ⟨_, rfl⟩
  obtain ⟨n1, hn1⟩ : ∃ n1, n0 + 1 = n1 := ⟨_, rfl⟩
  obtain ⟨n2, hn2⟩ : ∃ n2, n1 + 1 = n2 := ⟨_, rfl⟩
  rw [hn0] at K0
  rw [hn0, hn1] at K1
  rw [hn0, hn1, hn2] at K2
  rw [hn0, hn1, hn2]
  have KS : Hid (V0.heap[b]? = some (.cells S.cells 58)) := (HBV.out.block b g2).trans HS.out
  refine wpIn_wide.2 ?_
  refine wp_region_last (fun w' => Below V0.heap.size V0 w') (fun w' => ∃ w0, Below V0.heap.size V0 w0 ∧ w' = (w0.drew.setCell ⟨b, 2, none⟩ (.float .f64 (avgF S.avg L)))) (psi9_11 b g o L cap) 3 mixed (Below.refl _ _).drew (by kernel_rfl) (by kernel_rfl) (by kernel_rfl) (by kernel_rfl) (by kernel_rfl) ?each ?last ?fin
  case each =>
    simp only [List.dropLast, List.forall_mem_cons]
    refine ⟨?_, ?_, ?_, fun _ h => by cases h⟩
    · intro a w1 hC hs hn
      have h1' : a.tmps.getD 3 undef = .pointer (some ⟨n0, 0, none⟩) := hs 3 (by kernel_rfl)
      have hc0 : w1.cell? ⟨n0, 0, none⟩ = some (.pointer (some ⟨b, 0, none⟩)) := (hC.cell (p := ⟨n0, 0, none⟩) (by have := HZ.out; simp; omega)).trans (cell_of K0.out)
      have HC : Hid _ := hC
      clear hs hn hC
      unfold Oper.wp
      simp only [execOp, Act.eval, h1']
      go_simp
      exact ⟨_, rfl, rfl, HC.out⟩
    · intro a w1 hC hs hn
      have h1' : a.tmps.getD 4 undef = .pointer (some ⟨n1, 0, none⟩) := hs 4 (by kernel_rfl)
      have hc0 : w1.cell? ⟨n1, 0, none⟩ = some (.slice (some ⟨g, o, none⟩) L cap) := (hC.cell (p := ⟨n1, 0, none⟩) (by have := HZ.out; simp; omega)).trans (cell_of K1.out)
      have HC : Hid _ := hC
      clear hs hn hC
      unfold Oper.wp
      simp only [execOp, Act.eval, h1']
      go_simp
      exact ⟨_, rfl, rfl, HC.out⟩
    · intro a w1 hC hs hn
      have h1' : a.tmps.getD 48 undef = .agg #[.slice (some ⟨g, o, none⟩) L cap] := hn 48 (by kernel_rfl)
      clear hs hn
      unfold Oper.wp
      simp only [execOp, Act.eval, h1']
      go_simp
      refine (len_any g o L cap w1).mono ?_
      rintro e w2 ⟨rfl, hb⟩
      exact ⟨_, rfl, rfl, hC.trans (hb.mono hC.size)⟩
  case last =>
    simp only [List.getLast?, List.getLast, Option.mem_def, Option.some.injEq]
    rintro o2 rfl
    intro a w1 hC hs hn
    have h1' : a.tmps.getD 47 undef = .pointer (some ⟨b, 0, none⟩) := hn 47 (by kernel_rfl)
    have h2' : a.tmps.getD 49 undef = .int .i64 L := hn 49 (by kernel_rfl)
    clear hs hn
    unfold Oper.wp
    simp only [execOp, Act.eval, h1', h2']
    go_simp
    refine (average_any b S L w1 ((hC.block b (by have := HZ.out; omega)).trans KS.out) ha (by omega) (by have := HLL.out; omega)).mono ?_
    rintro e w2 ⟨rfl, rfl⟩
    exact ⟨_, rfl, trivial, w1, hC, rfl⟩
  case fin =>
    intro ff w1 hC hs hp
    obtain ⟨w0, hb0, rfl⟩ := hC
    have e3 : ff 3 = .pointer (some ⟨n0, 0, none⟩) := hs 3 (by kernel_rfl)
    have e4 : ff 4 = .pointer (some ⟨n1, 0, none⟩) := hs 4 (by kernel_rfl)
    have e5 : ff 5 = .pointer (some ⟨n2, 0, none⟩) := hs 5 (by kernel_rfl)
    clear hs hp
    have hz := HZ.out
    have MS : Hid ((w0.drew.setCell ⟨b, 2, none⟩ (.float .f64 (avgF S.avg L))).heap[b]? = some (.cells ({ S with avg := avgF S.avg L } : StV).cells 58)) := (heap_set ((hb0.block b (by omega)).trans KS.out) _).trans (by simp [StV.cells])
    have oth : ∀ k, k < V0.heap.size → k ≠ b → (w0.drew.setCell ⟨b, 2, none⟩ (.float .f64 (avgF S.avg L))).heap[k]? = V0.heap[k]? := fun k hk hkb => (Below.heap_setCell _ _ _ _ hkb).trans (hb0.block k hk)
    have M0 : Hid ((w0.drew.setCell ⟨b, 2, none⟩ (.float .f64 (avgF S.avg L))).heap[n0]? = some (.cells #[.pointer (some ⟨b, 0, none⟩)] 53)) := (oth n0 (by omega) (by omega)).trans K0.out
    have M1 : Hid ((w0.drew.setCell ⟨b, 2, none⟩ (.float .f64 (avgF S.avg L))).heap[n1]? = some (.cells #[.slice (some ⟨g, o, none⟩) L cap] 35)) := (oth n1 (by omega) (by omega)).trans K1.out
    have M2 : Hid ((w0.drew.setCell ⟨b, 2, none⟩ (.float .f64 (avgF S.avg L))).heap[n2]? = some (.cells #[.int .u64 now.n, .int .i64 now.s, .pointer none] 48)) := (oth n2 (by omega) (by omega)).trans K2.out
    have MM : Hid (mp (w0.drew.setCell ⟨b, 2, none⟩ (.float .f64 (avgF S.avg L))) S.mb n c (vals f0)) := mp_block HM.out ((oth S.mb (by omega) (fun e => gbm e.symm)).trans (HBV.out.block _ g3))
    have MT : Hid (Two b S.mb w (w0.drew.setCell ⟨b, 2, none⟩ (.float .f64 (avgF S.avg L)))) := ((Two.below HBV.out).trans (Two.below hb0)).drew.setCell _ _
    have MZ : Hid (V0.heap.size ≤ (w0.drew.setCell ⟨b, 2, none⟩ (.float .f64 (avgF S.avg L))).heap.size) := by have h := hb0.size; show _ ≤ _; simpa [World.setCell] using h
    have MR : Hid (Row (w0.drew.setCell ⟨b, 2, none⟩ (.float .f64 (avgF S.avg L))) g o (flat ps)) := HR.out.two MT.out hg hgb hgm
    clear K0 K1 K2 KS hb0 oth
    simp only [List.size_toArray, List.length_cons, List.length_nil, List.range, List.range.loop, List.map_cons, List.map_nil, e3, e4, e5]
    generalize (w0.drew.setCell ⟨b, 2, none⟩ (.float .f64 (avgF S.avg L))) = X at MS M0 M1 M2 MM MT MZ MR ⊢
    clear e3 e4 e5
    have q1 : X.cell? ⟨n1, 0, none⟩ = some (.slice (some ⟨g, o, none⟩) L cap) := cell_of M1.out
    gi_wp2
    refine ⟨trivial, ?_⟩
    gi_at_call 19
    refine (callsIn_wide.2 (packets_any g o L cap _)).mono ?_
    rintro e w1 ⟨rfl, rfl⟩
    gi_wp2
    have NB0 : Hid ((X.alloc (.cells #[.slice (some ⟨g, o, none⟩) L cap] 35)).heap[X.heap.size]? = some (.cells #[.slice (some ⟨g, o, none⟩) L cap] 35)) := top_at rfl
    have hxz : X.heap.size < (X.alloc (.cells #[.slice (some ⟨g, o, none⟩) L cap] 35)).heap.size := by simp
    have hmz := MZ.out
    have N0 : Hid ((X.alloc (.cells #[.slice (some ⟨g, o, none⟩) L cap] 35)).heap[n0]? = some (.cells #[.pointer (some ⟨b, 0, none⟩)] 53)) := push_at (by omega) M0.out
    have N2 : Hid ((X.alloc (.cells #[.slice (some ⟨g, o, none⟩) L cap] 35)).heap[n2]? = some (.cells #[.int .u64 now.n, .int .i64 now.s, .pointer none] 48)) := push_at (by omega) M2.out
    have NS : Hid ((X.alloc (.cells #[.slice (some ⟨g, o, none⟩) L cap] 35)).heap[b]? = some (.cells ({ S with avg := avgF S.avg L } : StV).cells 58)) := push_at (by omega) MS.out
    have NM : Hid (mp (X.alloc (.cells #[.slice (some ⟨g, o, none⟩) L cap] 35)) S.mb n c (vals f0)) := mp_block MM.out (push_at (mp_lt MM.out) rfl)
    have NT : Hid (Two b S.mb w (X.alloc (.cells #[.slice (some ⟨g, o, none⟩) L cap] 35))) := MT.out.alloc _
    have NR : Hid (Row (X.alloc (.cells #[.slice (some ⟨g, o, none⟩) L cap] 35)) g o (flat ps)) := MR.out.below ((Below.refl _ _).alloc (Nat.le_refl _) _) (by omega)
    generalize X.heap.size = Bn at NB0 hxz hmz ⊢
    generalize X.alloc (.cells #[.slice (some ⟨g, o, none⟩) L cap] 35) = V at NB0 hxz N0 N2 NS NM NT NR ⊢
    have hwv : w.heap.size ≤ V.heap.size := NT.out.size
    have R0 : RS V b (n + 0) ({ S with avg := avgF S.avg L } : StV) keys f0 V := by
      refine ⟨?_, ⟨c, NM.out⟩, Two.refl _ _ _⟩
      have := HSN.out
      show V.heap[b]? = _
      rw [NS.out]
      simp [StV.cells, this]
    refine wpIn_rangeFunc_ownH rfl (by omega) (gf := 45) (lb := #[.pointer (some ⟨Bn, 0, none⟩)]) rfl trivial (enters_of Ybaz.func45 (by kernel_rfl) rfl)
      (packets_stops 9 (by omega) Bn g o cap b ps HOK.out hcap hgb (by omega) V (by rw [HLL.out]; exact cell_of NB0.out) NR.out (by omega) (by omega) (by omega)) (fun h h' => h.trans h') (fun W l o o' _ hl ho _ => kpB_put hl ho) (Below.refl _ _) (fun _ => rfl)
      (fun pre W => RS V b (n + pre.length) ({ S with avg := avgF S.avg L } : StV) keys (run now f0 (evsOf ps pre)) W) (fun _ _ _ => False)
      (RS.own (b := b) (S := ({ S with avg := avgF S.avg L } : StV)) (keys := keys) (by omega) (show S.mb < _ by omega) (fun pre => n + pre.length) (fun pre => run now f0 (evsOf ps pre))) (fun _ _ _ _ _ hs _ _ => hs) R0
      (fun x a' W => ∃ Bx, V.heap.size ≤ Bx ∧ W.heap[Bx]? = some (.cells #[.slice (some ⟨g, o + offs ps x.1, none⟩) (4 + 4 * (ps[x.1]'x.2).k) (cap - offs ps x.1), .int .i64 (4 + 4 * (ps[x.1]'x.2).k : Nat)] 81) ∧ a' = { tmps := #[ff 0, ff 1, ff 2, .pointer (some ⟨n0, 0, none⟩), .pointer (some ⟨n1, 0, none⟩), .pointer (some ⟨n2, 0, none⟩), ff 6, ff 7, ff 8, ff 9, .pointer (some ⟨Bx, 0, none⟩), ff 11, ff 12, ff 13, ff 14, ff 15, ff 16, ff 17, ff 18, ff 19, ff 20, ff 21, ff 22, ff 23, ff 24, ff 25, ff 26, ff 27, ff 28, ff 29, ff 30, ff 31, ff 32, ff 33, ff 34, ff 35, ff 36, ff 37, ff 38, ff 39, ff 40, ff 41, ff 42, ff 43, ff 44, ff 45, ff 46, ff 47, ff 48, ff 49, ff 50, .agg #[.slice (some ⟨g, o, none⟩) L cap], .func (.func 45) #[] #[.pointer (some ⟨Bn, 0, none⟩)], pkV g o cap ps x, ff 54, ff 55, ff 56, ff 57, ff 58, ff 59, ff 60, ff 61, ff 62, ff 63, ff 64, ff 65, ff 66, ff 67, ff 68, ff 69, ff 70, ff 71, ff 72, ff 73, ff 74, ff 75, ff 76, ff 77, ff 78, ff 79, ff 80, ff 81, ff 82, ff 83, ff 84, ff 85, ff 86, ff 87, ff 88, ff 89, ff 90, ff 91, ff 92, ff 93, ff 94, ff 95], defers := [] }) ?hAx ?assign ?body ?done ?stop
    case hAx =>
      intro x a' s A B row hs hgr hrr
      obtain ⟨Bx, h1, h2, h3⟩ := hs
      refine ⟨Bx, h1, ?_, h3⟩
      refine (hgr.block Bx (Array.getElem?_eq_some_iff.1 h2).1 (fun e => ?_)).trans h2
      obtain ⟨_, o2, ho2, hc2⟩ := hrr Bx e.symm
      rw [h2] at ho2; cases ho2; cases hc2
    case assign =>
      rintro l pre x W K hRS hK
      unfold pkV
      gi_wp2
      refine hK _ _ ((KeepsOthers.alloc _ _).from _) (hRS.fresh.kp (hRS.fresh.alloc _)) (hRS.alloc _) ⟨W.heap.size, hRS.size, (MapKept.heap_alloc W _).1, rfl⟩
    case body =>
      rintro l pre x a' W hl ⟨r, hlr⟩ hRS ⟨Bx, hBx, hbx, rfl⟩ hlt
      have hnb : ∀ {Z : World}, RS W b (n + pre.length + 1) ({ S with avg := avgF S.avg L } : StV) keys (run now (run now f0 (evsOf ps pre)) (ps[x.1]'x.2).evs) Z → ∀ a', ownPostG V.heap.size (KpB b) (fun pre W => RS V b (n + pre.length) ({ S with avg := avgF S.avg L } : StV) keys (run now f0 (evsOf ps pre)) W) (fun _ _ _ => False) (pre ++ [x]) W .normal a' Z := by
        intro Z hZ a'
        refine ⟨keepsFrom_two hZ.two (by omega) (show S.mb < _ by omega), hRS.fresh.kp hZ, ?_⟩
        show RS V b (n + (pre ++ [x]).length) ({ S with avg := avgF S.avg L } : StV) keys (run now f0 (evsOf ps (pre ++ [x]))) Z
        rw [evsOf_snoc, run_append, List.length_append]
        exact RS.join hRS.two hZ
      have hBb : Bx ≠ b := by omega
      have hBm : Bx ≠ (({ S with avg := avgF S.avg L } : StV) : StV).mb := by show Bx ≠ S.mb; omega
      have b1 := hRS.at N0.out (by omega) (show n0 ≠ S.mb by omega)
      have b2 := hRS.at N2.out (by omega) (show n2 ≠ S.mb by omega)
      have hgW : g < W.heap.size := by have := hRS.size; omega
      have hrx := row_at (hRS.row NR.out (by omega) hgb (show g ≠ S.mb from hgm)) x
      have hml : 4 + 4 * (ps[x.1]'x.2).k ≤ cap - offs ps x.1 := by have := len_at ps x; omega
      have hmx : n + pre.length < maxLen := Nat.lt_of_lt_of_le (show n + pre.length < 900000 by omega) (by decide)
      have hkx : ∀ e ∈ (ps[x.1]'x.2).evs, e.2 ∈ keys := HKE.out _ (List.getElem_mem _)
      have hpx := HOK.out _ (List.getElem_mem x.2)
      cases hpk : ps[x.1]'x.2 with
      | sr s => exact body_sr l _ b g _ _ _ n0 n2 Bx _ _ _ ({ S with avg := avgF S.avg L } : StV) keys (run now f0 (evsOf ps pre)) now W b1 b2 hbx (by omega) (show n0 ≠ S.mb by omega) (by omega) (show n2 ≠ S.mb by omega) hBb hBm hgb hgm hgW hrx rfl hml hpx hRS.fresh (by omega) hmx hnd (by omega) hkx (fun a' W' h => hnb h a') s hpk
      | rr s => exact body_rr l _ b g _ _ _ n0 n2 Bx _ _ _ ({ S with avg := avgF S.avg L } : StV) keys (run now f0 (evsOf ps pre)) now W b1 b2 hbx (by omega) (show n0 ≠ S.mb by omega) (by omega) (show n2 ≠ S.mb by omega) hBb hBm hgb hgm hgW hrx rfl hml hpx hRS.fresh (by omega) hmx hnd (by omega) hkx (fun a' W' h => hnb h a') s hpk
      | bye lst => exact body_bye l _ b g _ _ _ n0 n2 Bx _ _ _ ({ S with avg := avgF S.avg L } : StV) keys (run now f0 (evsOf ps pre)) now W b1 b2 hbx (by omega) (show n0 ≠ S.mb by omega) (by omega) (show n2 ≠ S.mb by omega) hBb hBm hgb hgm hgW hrx rfl hml hpx hRS.fresh (by omega) hmx hnd (by omega) hkx (fun a' W' h => hnb h a') lst hpk
      | sdes => exact body_sdes l _ b g _ _ _ n0 n2 Bx _ _ _ ({ S with avg := avgF S.avg L } : StV) keys (run now f0 (evsOf ps pre)) now W b1 b2 hbx (by omega) (show n0 ≠ S.mb by omega) (by omega) (show n2 ≠ S.mb by omega) hBb hBm hgb hgm hgW hrx rfl hml hpx hRS.fresh (by omega) hmx hnd (by omega) hkx (fun a' W' h => hnb h a') hpk
    case done =>
      rintro D xs W hD hS hRS hK
      rw [evsOf_all ps xs hS] at hRS
      have hlen : xs.length = ps.length := by have := congrArg List.length hS; simpa using this
      rw [hlen] at hRS
      obtain ⟨c', hmp⟩ := hRS.mm
      have b0 : W.cell? ⟨n0, 0, none⟩ = some (.pointer (some ⟨b, 0, none⟩)) := cell_of (hRS.at N0.out (by omega) (show n0 ≠ S.mb by omega))
      have b2 := hRS.at N2.out (by omega) (show n2 ≠ S.mb by omega)
      have q0 : W.cell? ⟨n2, 0, none⟩ = some (.int .u64 now.n) := cell_of b2
      have q1 : W.cell? ⟨n2, 1, none⟩ = some (.int .i64 now.s) := cell_of b2
      have q2 : W.cell? ⟨n2, 2, none⟩ = some (.pointer none) := cell_of b2
      have hc' : c' < 1000000 := by have := mp_size_le hmp; omega
      have hrec := reco_any b _ c' p _ now _ W hRS.st hmp HP.out hp2 HNOW.out HTN.out HTP.out hc'
      have HRS : Hid (RS V b (n + ps.length) ({ S with avg := avgF S.avg L } : StV) keys (run now f0 (ps.flatMap Pk.evs)) W) := hRS
      have HMP : Hid (mp W S.mb (n + ps.length) c' (vals (run now f0 (ps.flatMap Pk.evs)))) := hmp
      have HKD : Hid (W.heap[D]? = some (.deferred (some []))) := hK
      clear hRS hmp b2 hlen hS
      unfold tv at hrec
      gi_wp2
      refine ⟨trivial, ?_⟩
      gi_at_call 31
      refine (callsIn_wide.2 hrec).mono ?_
      clear hrec
      rintro e W2 ⟨rfl, hst, htw⟩
      have hDb : D ≠ b := by omega
      have HK2 : W2.heap[D]? = some (.deferred (some [])) := (htw.block D (Array.getElem?_eq_some_iff.1 HKD.out).1 hDb hDb).trans HKD.out
      have HST : Hid _ := hst
      have HMM : Hid (mp W2 S.mb (n + ps.length) c' (vals (run now f0 (ps.flatMap Pk.evs)))) := mp_block HMP.out (htw.block _ (mp_lt HMP.out) (fun e => gbm e.symm) (fun e => gbm e.symm))
      have HTW : Hid (Two b S.mb w W2) := (NT.out.trans HRS.out.two).trans ⟨htw.os, htw.tape, htw.output, htw.size, fun k hk h1 _ => htw.block k hk h1 h1⟩
      clear hst htw
      gi_wp2
      refine ⟨by simp, .inl ⟨_, _, rfl, run_takeDeferred HK2, ?_⟩⟩
      refine ⟨_, results_none rfl _ _ _, rfl, ⟨c', n + ps.length, ?_, ?_⟩, HTW.out.put (by omega)⟩
      · exact mp_block HMM.out (World.putObj_heap_other (by omega))
      · exact (World.putObj_heap_other (by omega)).trans HST.out
    case stop =>
      rintro D c pre W _ _ h _
      exact h.elim
end Go.Proofs.YbulkdsruGreatDoor
