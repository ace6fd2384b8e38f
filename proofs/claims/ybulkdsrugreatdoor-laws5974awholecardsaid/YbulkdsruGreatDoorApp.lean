import Derived.Test.YbulkdsruGreatDoorPk
import Derived.Deep.AppendLies
import Derived.OwnWalk
namespace Go.Proofs.YbulkdsruGreatDoor
open Go.RowKit Go.Op
set_option linter.unusedVariables false
set_option linter.unusedSimpArgs false

theorem info5 : (Ybaz.prog.info? 5).map (fun i => (i.zero, i.size, i.bytes)) = some (some (.int .u8 0), 1, 1) := by kernel_rfl
theorem info33 : (Ybaz.prog.info? 33).map (fun i => (i.zero, i.size, i.bytes)) = some (some (.agg #[.int .i64 0, .int .u32 0]), 2, 16) := by kernel_rfl
theorem info24 : (Ybaz.prog.info? 24).map (fun i => (i.zero, i.size, i.bytes)) = some (some (.int .u32 0), 1, 4) := by kernel_rfl

def u8s (bs : List Int) : List Value := bs.map (Value.int .u8)
def evCells (es : List (Int × Int)) : List Value := es.flatMap fun e => [.int .i64 e.1, .int .u32 e.2]
def u32s (ks : List Int) : List Value := ks.map (Value.int .u32)
theorem evCells_snoc (es : List (Int × Int)) (e : Int × Int) : evCells (es ++ [e]) = evCells es ++ [.int .i64 e.1, .int .u32 e.2] := by simp [evCells]
theorem u8s_append (a b : List Int) : u8s (a ++ b) = u8s a ++ u8s b := by simp [u8s]
theorem u32s_append (a b : List Int) : u32s (a ++ b) = u32s a ++ u32s b := by simp [u32s]

/-- A world, and the blocks that stay. -/
structure Keep where
  w : World
  kp : Nat → Obj → Prop
/-- The datagram and the events, in the building. -/
structure Bld (W0 : Keep) (base : Nat) (bs : List Int) (es : List (Int × Int)) (vb ve : Value) (w : World) : Prop where
  row : w.ownsRow base 5 1 vb bs.length (u8s bs)
  evr : w.ownsRow base 33 2 ve es.length (evCells es)
  apart : ∀ k, vb.ownBlock = some k → ve.ownBlock ≠ some k
  bel : Below base W0.w w
  siz : base ≤ w.heap.size
  keep : ∀ k o, W0.kp k o → w.heap[k]? = some o ∧ vb.ownBlock ≠ some k ∧ ve.ownBlock ≠ some k

section
variable {W0 : Keep} {w w' : World} {base : Nat} {bs : List Int} {es : List (Int × Int)} {vb ve : Value}
theorem grown_none {w w' : World} (h : Below w.heap.size w w') (row : Option Nat) : w.grownBy w' row := ⟨h.os, h.tape, h.output, h.size, fun k hk _ => h.block k hk⟩
theorem Bld.step (h : Bld W0 base bs es vb ve w) (hb : Below w.heap.size w w') : Bld W0 base bs es vb ve w' := by
  refine ⟨h.row.kept (grown_none hb none) ?_, h.evr.kept (grown_none hb none) ?_, h.apart, h.bel.trans (hb.mono h.siz), Nat.le_trans h.siz hb.size, fun k o hk => ⟨(hb.block k (Array.getElem?_eq_some_iff.1 (h.keep k o hk).1).1).trans (h.keep k o hk).1, (h.keep k o hk).2⟩⟩
  · cases hq : vb.ownBlock <;> simp
  · cases hq : ve.ownBlock <;> simp
theorem Bld.alloc (h : Bld W0 base bs es vb ve w) (o : Obj) : Bld W0 base bs es vb ve (w.alloc o) := h.step ((Below.refl _ _).alloc (Nat.le_refl _) _)
theorem Bld.newB (h : Bld W0 base bs es vb ve w) {g cap n : Nat} {bs' : List Int} (hn : n = bs'.length) (h1 : w'.ownsRow base 5 1 (.slice (some ⟨g, 0, none⟩) n cap) n (u8s bs')) (h2 : w.grownBy w' vb.ownBlock) (h3 : vb.ownBlock = some g ∨ g = w.heap.size) :
    Bld W0 base bs' es (.slice (some ⟨g, 0, none⟩) bs'.length cap) ve w' := by
  subst hn
  refine ⟨h1, h.evr.kept h2 ?_, ?_, h.bel.grown h2 h.siz (fun k hk => (h.row.lt k hk).1), Nat.le_trans h.siz h2.size, fun k o hk => ?_⟩
  · cases hv : ve.ownBlock with
    | none => exact .inl rfl
    | some k => exact .inr (fun e => h.apart k e.symm hv)
  · intro k hk
    simp [Value.ownBlock] at hk
    subst hk
    rcases h3 with h3 | h3
    · exact h.apart _ h3
    · intro e
      have := (h.evr.lt _ e).2
      omega
  · obtain ⟨a, b, c⟩ := h.keep k o hk
    have hlt := (Array.getElem?_eq_some_iff.1 a).1
    refine ⟨(h2.block k hlt (fun e => b e.symm)).trans a, ?_, c⟩
    intro e
    simp [Value.ownBlock] at e
    subst e
    rcases h3 with h3 | h3
    · exact b h3
    · omega
theorem Bld.newE (h : Bld W0 base bs es vb ve w) {g cap n : Nat} {es' : List (Int × Int)} (hn : n = es'.length) (h1 : w'.ownsRow base 33 2 (.slice (some ⟨g, 0, none⟩) n cap) n (evCells es')) (h2 : w.grownBy w' ve.ownBlock) (h3 : ve.ownBlock = some g ∨ g = w.heap.size) :
    Bld W0 base bs es' vb (.slice (some ⟨g, 0, none⟩) es'.length cap) w' := by
  subst hn
  refine ⟨h.row.kept h2 ?_, h1, ?_, h.bel.grown h2 h.siz (fun k hk => (h.evr.lt k hk).1), Nat.le_trans h.siz h2.size, fun k o hk => ?_⟩
  · cases hv : vb.ownBlock with
    | none => exact .inl rfl
    | some k => exact .inr (fun e => h.apart k hv e.symm)
  · intro k hk e
    simp [Value.ownBlock] at e
    subst e
    rcases h3 with h3 | h3
    · exact h.apart _ hk h3
    · have := (h.row.lt _ hk).2
      omega
  · obtain ⟨a, b, c⟩ := h.keep k o hk
    have hlt := (Array.getElem?_eq_some_iff.1 a).1
    refine ⟨(h2.block k hlt (fun e => c e.symm)).trans a, b, ?_⟩
    intro e
    simp [Value.ownBlock] at e
    subst e
    rcases h3 with h3 | h3
    · exact c h3
    · omega
end

theorem oneCell_ints (k : IntKind) (l : List Int) : ∀ u ∈ l.map (Value.int k), u.oneCell' = true := by
  intro u hu
  obtain ⟨x, _, rfl⟩ := List.mem_map.1 hu
  rfl

/-- 'buf = append(buf, ..)'. -/
theorem wpList_appB {ops : Array Oper} {rest : List Oper} {o : Oper} {a : Act} {Q : Exit → Act → World → Prop} (ns : List Int) {W0 : Keep} {w : World} {base : Nat} {bs : List Int} {es : List (Int × Int)} {vb ve : Value} (hB : Bld W0 base bs es vb ve w) (hgd : o.guard = none) (s x : Operand)
    (ho : o.op = .call { callee := .builtin .append, args := #[s, x], argTypes := #[30, 30] }) (hs : a.eval s = vb) (c : Nat) (hx : a.eval x = .slice (some ⟨w.heap.size, 0, none⟩) ns.length c) (hpos : 0 < ns.length) (hlen : bs.length + ns.length ≤ 100000000)
    (h : ∀ vb' w', Bld W0 base (bs ++ ns) es vb' ve w' → wpList Ybaz.prog ops Q rest (a.put o.dst vb') w') :
    wpList Ybaz.prog ops Q (o :: rest) a (w.alloc (.cells (u8s ns).toArray 5)) := by
  obtain ⟨i, hi, hz0, hz1, hz2⟩ := info_parts info5
  have hBa := hB.alloc (.cells (u8s ns).toArray 5)
  have hmx : bs.length + ns.length ≤ maxLen := Nat.le_trans hlen (by decide)
  refine wpList_append_lies _ hgd s x 30 ho base 5 i (.int .u8 0) 1 1 Ybaz.underlying30 hi hz0 hz1 hz2 rfl (by decide) vb bs.length (u8s bs) hs hBa.row ⟨w.heap.size, 0, none⟩ ns.length c (u8s ns) hx (by simp [u8s]) ?_ (oneCell_ints _ _) hpos hmx (by omega) hBa.siz _ rfl ?_
  · exact World.news_of_block (MapKept.heap_alloc w _).1
  · intro g cap w' h1 h2 h3 h4
    rw [← u8s_append] at h1
    have := hBa.newB (g := g) (cap := cap) (bs' := bs ++ ns) (by simp) h1 h2 h3
    have e : bs.length + ns.length = (bs ++ ns).length := by simp
    rw [e]
    exact h _ w' this

/-- 'ev = append(ev, ..)'. -/
theorem wpList_appE {ops : Array Oper} {rest : List Oper} {o : Oper} {a : Act} {Q : Exit → Act → World → Prop} (e1 e2 : Int) {W0 : Keep} {w : World} {base : Nat} {bs : List Int} {es : List (Int × Int)} {vb ve : Value} (hB : Bld W0 base bs es vb ve w) (hgd : o.guard = none) (s x : Operand)
    (ho : o.op = .call { callee := .builtin .append, args := #[s, x], argTypes := #[29, 29] }) (hs : a.eval s = ve) (c : Nat) (hx : a.eval x = .slice (some ⟨w.heap.size, 0, none⟩) 1 c) (hlen : es.length + 1 ≤ 100000000)
    (h : ∀ ve' w', Bld W0 base bs (es ++ [(e1, e2)]) vb ve' w' → wpList Ybaz.prog ops Q rest (a.put o.dst ve') w') :
    wpList Ybaz.prog ops Q (o :: rest) a (w.alloc (.cells #[.int .i64 e1, .int .u32 e2] 33)) := by
  obtain ⟨i, hi, hz0, hz1, hz2⟩ := info_parts info33
  have hBa := hB.alloc (.cells #[.int .i64 e1, .int .u32 e2] 33)
  have hmx : es.length + 1 ≤ maxLen := Nat.le_trans hlen (by decide)
  refine wpList_append_lies _ hgd s x 29 ho base 33 i (.agg #[.int .i64 0, .int .u32 0]) 2 16 Ybaz.underlying29 hi hz0 hz1 hz2 rfl (by decide) ve es.length (evCells es) hs hBa.evr ⟨w.heap.size, 0, none⟩ 1 c [.int .i64 e1, .int .u32 e2] hx rfl ?_ ?_ (by decide) hmx (by omega) hBa.siz _ rfl ?_
  · exact World.news_of_block (MapKept.heap_alloc w _).1
  · intro u hu
    simp at hu
    rcases hu with rfl | rfl <;> rfl
  · intro g cap w' h1 h2 h3 h4
    have h1' : w'.ownsRow base 33 2 (.slice (some ⟨g, 0, none⟩) (es.length + 1) cap) (es.length + 1) (evCells (es ++ [(e1, e2)])) := by rw [evCells_snoc]; exact h1
    have := hBa.newE (g := g) (cap := cap) (es' := es ++ [(e1, e2)]) (by simp) h1' h2 h3
    have e : es.length + 1 = (es ++ [(e1, e2)]).length := by simp
    rw [e]
    exact h _ w' this

section
variable {P : Program}
theorem zeroCells_one (z : Value) (h : z.cells = #[z]) (m : Nat) : Builtin.zeroCells z.cells m = (List.replicate m z).toArray := by
  rw [h]
  unfold Builtin.zeroCells
  apply Array.ext
  · simp
  · intro i h1 h2
    simp [Nat.mod_one]

theorem run_room_zeros (w : World) (t tn ty e : TypeId) (i : TypeInfo) (z : Value) (k kn : IntKind) (ht : P.underlying t = some (.slice e)) (htn : P.underlying tn = some (.int kn)) (hi : P.info? e = some i) (hz : i.zero = some z) (hs1 : i.size = 1) (hzc : z.cells = #[z]) (hz1 : z.oneCell' = true)
    (g n cap : Nat) (cur : Array Value) (hg : w.heap[g]? = some (.cells cur e (0, 0))) (m : Nat) (h0 : 0 < m) (h63 : m ≤ 100000000) (hb : i.bytes ≤ 1) (hroom : n + m ≤ cap) (hfit : n + m ≤ cur.size) :
    (Builtin.append_ #[t, tn] ty #[.slice (some ⟨g, 0, none⟩) n cap, .int k m]).run P w =
      .ok (.slice (some ⟨g, 0, none⟩) (n + m) cap) (w.setRow g (cur.toList.take n ++ List.replicate m z ++ cur.toList.drop (n + m)).toArray) := by
  have hw : IntKind.i64.wrap (m : Int) = m := by rw [IntKind.wrap_i64]; omega
  have hneg : ¬ ((m : Int) < 0) := by omega
  have hm0 : m ≠ 0 := by omega
  have hmb : m * i.bytes ≤ m := by have := Nat.mul_le_mul_left m hb; omega
  have h48i : ¬ (281474976710656 < (m : Int) * (i.bytes : Int)) := by rw [← Int.natCast_mul]; omega
  have hst := run_storeCells_at P g n e (List.replicate m z) 0 cur w hg (by simpa using hfit) (by intro v hv; rw [List.eq_of_mem_replicate hv]; exact hz1)
  simp only [Nat.add_zero, List.length_replicate] at hst
  have hzz := zeroCells_one z hzc m
  simp [Builtin.append_, run_underlying ht, run_underlying htn, sizeOf, typeInfo, zeroValue, hi, hz, hs1, asInt, asIntOf, hw, hneg, hm0, h48i, hroom, Addr.add_lit, hzz, hst]

theorem run_grow_zeros (w : World) (t tn ty e : TypeId) (i : TypeInfo) (z : Value) (k kn : IntKind) (ht : P.underlying t = some (.slice e)) (htn : P.underlying tn = some (.int kn)) (hi : P.info? e = some i) (hz : i.zero = some z) (hs1 : i.size = 1) (hzc : z.cells = #[z])
    (g n cap : Nat) (olds : List Value) (hlo : olds.length = n) (holds : ∀ j v, olds[j]? = some v → w.cell? ((⟨g, 0, none⟩ : Addr).add j) = some v) (m : Nat) (h0 : 0 < m) (h63 : n + m ≤ 100000000) (hb : i.bytes ≤ 1) (hroom : cap < n + m) (hfit : Builtin.nextslicecap (n + m) cap * i.bytes ≤ 281474976710656) :
    (Builtin.append_ #[t, tn] ty #[.slice (some ⟨g, 0, none⟩) n cap, .int k m]).run P w =
      .ok (.slice (some ⟨w.heap.size, 0, none⟩) (n + m) (grownCap w (n + m) cap e)) (w.drew.alloc (.cells (olds.toArray ++ (List.replicate m z).toArray ++ Builtin.zeroCells z.cells (grownCap w (n + m) cap e - (n + m))) e)) := by
  have hw : IntKind.i64.wrap (m : Int) = m := by rw [IntKind.wrap_i64]; omega
  have hneg : ¬ ((m : Int) < 0) := by omega
  have hm0 : m ≠ 0 := by omega
  have hmb : m * i.bytes ≤ m := by have := Nat.mul_le_mul_left m hb; omega
  have h48i : ¬ (281474976710656 < (m : Int) * (i.bytes : Int)) := by rw [← Int.natCast_mul]; omega
  have hn : ¬ (n + m ≤ cap) := by omega
  have h63' : ¬ (9223372036854775807 < ((n : Int) + (m : Int))) := by omega
  have h48' : ¬ (281474976710656 < Builtin.nextslicecap (n + m) cap * i.bytes) := by omega
  have hfo := run_firstCells_some (P := P) w.drew 1 n ⟨g, 0, none⟩ n cap olds (by omega) (by simpa using holds)
  have hzz := zeroCells_one z hzc m
  simp [Builtin.append_, run_underlying ht, run_underlying htn, sizeOf, typeInfo, zeroValue, hi, hz, hs1, asInt, asIntOf, hw, hneg, hm0, h48i, hn, h63', h48', Question.forced, hfo, newRow, grownCap, hzz]
end

theorem run_append_zeros {w : World} {base n m : Nat} {xs : List Value} {g0 cap0 : Nat} (ty : TypeId) (hown : w.ownsRow base 5 1 (.slice (some ⟨g0, 0, none⟩) n cap0) n xs) (hm : 0 < m) (hlen : n + m ≤ 100000000) (hbase : base ≤ w.heap.size) :
    ∃ g cap w', (Builtin.append_ #[30, 3] ty #[.slice (some ⟨g0, 0, none⟩) n cap0, .int .i64 m]).run Ybaz.prog w = .ok (.slice (some ⟨g, 0, none⟩) (n + m) cap) w' ∧
      w'.ownsRow base 5 1 (.slice (some ⟨g, 0, none⟩) (n + m) cap) (n + m) (xs ++ List.replicate m (.int .u8 0)) ∧ w.grownBy w' (some g0) ∧ (some g0 = some g ∨ g = w.heap.size) := by
  obtain ⟨i, hi, hz0, hz1, hz2⟩ := info_parts info5
  have hxl := hown.1
  have hmx : n + m ≤ maxLen := Nat.le_trans hlen (by decide)
  rcases hown.2 with ⟨h, _⟩ | ⟨g, cap, cur, hv, hbg, hg, hnc, hcm, hcs, htake⟩
  · cases h
  · cases hv
    by_cases hroom : n + m ≤ cap0
    · have hr := run_room_zeros (P := Ybaz.prog) w 30 3 ty 5 i (.int .u8 0) .i64 .i64 Ybaz.underlying30 Ybaz.underlying3 hi hz0 hz1 rfl rfl g0 n cap0 cur hg m hm (by omega) (by omega) hroom (by omega)
      refine ⟨g0, cap0, _, hr, ⟨by simp; omega, .inr ⟨g0, cap0, _, rfl, hbg, setRow_heap w g0 cur _ 5 _ hg, hroom, hcm, ?_, ?_⟩⟩, ⟨rfl, rfl, rfl, by simp, fun k _ hk => setRow_other w g0 k _ (fun e => hk (by rw [e]))⟩, .inl rfl⟩
      · simp; omega
      · simp only [Nat.mul_one] at htake ⊢
        rw [htake]
        have : (xs ++ List.replicate m (Value.int .u8 0)).length = n + m := by simp; omega
        rw [← this]
        exact List.take_left
    · have hr := run_grow_zeros (P := Ybaz.prog) w 30 3 ty 5 i (.int .u8 0) .i64 .i64 Ybaz.underlying30 Ybaz.underlying3 hi hz0 hz1 rfl g0 n cap0 xs (by omega) (hown.cells (g := g0) rfl) m hm hlen (by omega) (by omega) (growslice_fits (by omega) (by rw [hz2]; omega))
      have hge := grownCap_ge w (n + m) cap0 5
      have hcm2 : grownCap w (n + m) cap0 5 ≤ maxLen := grownCap_le_maxLen w (n + m) cap0 5 hmx
      refine ⟨w.heap.size, _, _, hr, ⟨by simp; omega, .inr ⟨w.heap.size, _, _, rfl, hbase, heap_alloc_new w.drew _, hge, hcm2, ?_, ?_⟩⟩, ⟨rfl, rfl, rfl, by simp, fun k hk _ => Below.heap_alloc w.drew _ k hk⟩, .inr rfl⟩
      · rw [zeroCells_one _ rfl]; simp; omega
      · rw [zeroCells_one _ rfl]
        simp only [Array.toList_append, Nat.mul_one]
        have : (xs ++ List.replicate m (Value.int .u8 0)).length = n + m := by simp; omega
        rw [← this]
        exact List.take_left

/-- 'buf = append(buf, make([]byte, m)...)'. -/
theorem wpList_appZ {ops : Array Oper} {rest : List Oper} {o : Oper} {a : Act} {Q : Exit → Act → World → Prop} (m : Nat) {W0 : Keep} {w : World} {base : Nat} {bs : List Int} {es : List (Int × Int)} {vb ve : Value} (hB : Bld W0 base bs es vb ve w) (hgd : o.guard = none) (s x : Operand)
    (ho : o.op = .call { callee := .builtin .append, args := #[s, x], argTypes := #[30, 3] }) (hs : a.eval s = vb) (hx : a.eval x = .int .i64 m) (hb0 : 0 < bs.length) (hpos : 0 < m) (hlen : bs.length + m ≤ 100000000)
    (h : ∀ vb' w', Bld W0 base (bs ++ List.replicate m 0) es vb' ve w' → wpList Ybaz.prog ops Q rest (a.put o.dst vb') w') :
    wpList Ybaz.prog ops Q (o :: rest) a w := by
  refine wpList_plain hgd fun _ hK => ?_
  obtain ⟨g0, cap0, rfl, _, _⟩ := hB.row.form hb0
  obtain ⟨g, cap, w', hr, h1, h2, h3⟩ := run_append_zeros o.type hB.row hpos hlen hB.siz
  have e : bs.length + m = (bs ++ List.replicate m (0 : Int)).length := by simp
  have h1' : w'.ownsRow base 5 1 (.slice (some ⟨g, 0, none⟩) (bs.length + m) cap) (bs.length + m) (u8s (bs ++ List.replicate m 0)) := by
    rw [u8s_append]
    have : u8s (List.replicate m 0) = List.replicate m (.int .u8 0) := by simp [u8s]
    rw [this]; exact h1
  have hN := hB.newB (g := g) (cap := cap) (bs' := bs ++ List.replicate m 0) (by simp) h1' h2 h3
  unfold Oper.wp execOp
  simp only [ho, resolve, invoke, builtin, Sem.run_bind, Sem.run_pure, Result.andThen_ok, List.map_toArray, List.map_cons, List.map_nil, hs, hx, hr]
  rw [e]
  exact hK _ _ (h _ w' hN)

set_option maxRecDepth 8000 in
set_option maxHeartbeats 1000000 in
theorem put_any (W0 : Keep) (base : Nat) (bs : List Int) (es : List (Int × Int)) (vb ve : Value) (s : Int) (w : World) (hB : Bld W0 base bs es vb ve w) (hl : bs.length ≤ 10000000) :
    Calls Ybaz.prog 4 #[vb, .int .u32 s] w fun e w' => ∃ vb', e = .returned vb' ∧ Bld W0 base (bs ++ be4 s) es vb' ve w' := by
  have HB : Hid _ := hB
  have e0 : IntKind.u8.wrap (s / 16777216) = s / 16777216 % 256 := by simp [IntKind.wrap, IntKind.bits, IntKind.signed]
  have e1 : IntKind.u8.wrap (s / 65536) = s / 65536 % 256 := by simp [IntKind.wrap, IntKind.bits, IntKind.signed]
  have e2 : IntKind.u8.wrap (s / 256) = s / 256 % 256 := by simp [IntKind.wrap, IntKind.bits, IntKind.signed]
  have e3 : IntKind.u8.wrap s = s % 256 := by simp [IntKind.wrap, IntKind.bits, IntKind.signed]
  clear hB
  go_enter Ybaz.func4, Ybaz.ntmps4
  go_wp2_with (at_builtin; refine wpList_appB (be4 s) HB.out rfl _ _ rfl rfl 4 rfl (by simp [be4]) (by simp [be4]; omega) ?_; intro vb' w1 hB1)
  go_ret
  exact ⟨vb', rfl, hB1⟩
end Go.Proofs.YbulkdsruGreatDoor
