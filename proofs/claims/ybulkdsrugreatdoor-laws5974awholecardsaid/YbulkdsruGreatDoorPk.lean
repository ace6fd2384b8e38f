import Derived.Test.YbulkdsruGreatDoorBye
import Derived.Test.YbulkdsruGreatDoorView2
import Derived.Test.YbulkdsruGreatDoorPlain
namespace Go.Proofs.YbulkdsruGreatDoor
open Go.RowKit Go.Op
set_option linter.unusedVariables false
set_option linter.unusedSimpArgs false

/-- A packet of the compound. -/
inductive Pk where
  | sr (s : Int)
  | rr (s : Int)
  | bye (l : List Int)
  | sdes

def be4 (s : Int) : List Int := [s / 16777216 % 256, s / 65536 % 256, s / 256 % 256, s % 256]
def be4s : List Int → List Int
  | [] => []
  | s :: r => be4 s ++ be4s r

def Pk.cnt : Pk → Nat
  | .bye l => l.length
  | _ => 0
def Pk.typ : Pk → Int
  | .sr _ => 200
  | .rr _ => 201
  | .bye _ => 203
  | .sdes => 202
def Pk.k : Pk → Nat
  | .sr _ => 6
  | .rr _ => 1
  | .bye l => l.length
  | .sdes => 0
def Pk.body : Pk → List Int
  | .sr s => be4 s ++ List.replicate 20 0
  | .rr s => be4 s
  | .bye l => be4s l
  | .sdes => []
def Pk.bytes (p : Pk) : List Int := [128 + (p.cnt : Int), p.typ, 0, (p.k : Int)] ++ p.body
def Pk.evs : Pk → List (Int × Int)
  | .sr s => [(0, s)]
  | .rr s => [(1, s)]
  | .bye l => l.map fun s => (2, s)
  | .sdes => []
def u32ok (s : Int) : Prop := 0 ≤ s ∧ s < 4294967296
def Pk.ok : Pk → Prop
  | .sr s => u32ok s
  | .rr s => u32ok s
  | .bye l => l.length ≤ 31 ∧ ∀ s ∈ l, u32ok s
  | .sdes => True
def Pk.isBye : Pk → Bool
  | .bye _ => true
  | _ => false

theorem be4_len (s : Int) : (be4 s).length = 4 := rfl
theorem be4s_len : ∀ l : List Int, (be4s l).length = 4 * l.length
  | [] => rfl
  | s :: r => by simp [be4s, be4_len, be4s_len r]; omega
theorem Pk.body_len (p : Pk) : p.body.length = 4 * p.k := by
  cases p <;> simp [Pk.body, Pk.k, be4_len, be4s_len]
theorem Pk.len (p : Pk) : p.bytes.length = 4 + 4 * p.k := by
  simp [Pk.bytes, p.body_len]; omega
theorem Pk.k_le {p : Pk} (h : p.ok) : p.k ≤ 31 := by
  cases p
  · simp [Pk.k]
  · simp [Pk.k]
  · exact h.1
  · simp [Pk.k]
theorem Pk.cnt_le {p : Pk} (h : p.ok) : p.cnt ≤ 31 := by
  cases p
  · simp [Pk.cnt]
  · simp [Pk.cnt]
  · exact h.1
  · simp [Pk.cnt]

/-- The octets l lie in the block g from o on. -/
def Row (w : World) (g o : Nat) (l : List Int) : Prop := ∀ i v, l[i]? = some v → w.cell? ⟨g, o + i, none⟩ = some (.int .u8 v)

theorem Row.left {w : World} {g o : Nat} {l m : List Int} (h : Row w g o (l ++ m)) : Row w g o l := by
  intro i v hv
  have hi : i < l.length := (List.getElem?_eq_some_iff.1 hv).1
  exact h i v (by rw [List.getElem?_append_left hi]; exact hv)
theorem Row.right {w : World} {g o : Nat} {l m : List Int} (h : Row w g o (l ++ m)) : Row w g (o + l.length) m := by
  intro i v hv
  have := h (l.length + i) v (by rw [List.getElem?_append_right (by omega)]; simpa using hv)
  rw [Nat.add_assoc]; exact this
theorem Row.below {w w' : World} {B g o : Nat} {l : List Int} (h : Row w g o l) (hb : Below B w w') (hg : g < B) : Row w' g o l :=
  fun i v hv => (hb.cell (p := ⟨g, o + i, none⟩) hg).trans (h i v hv)
theorem Row.at {w : World} {g o : Nat} {l : List Int} (h : Row w g o l) (i : Nat) {v : Int} (hv : l[i]? = some v) : w.cell? ⟨g, o + i, none⟩ = some (.int .u8 v) := h i v hv

theorem be4_val {s : Int} (h : u32ok s) : s % 256 + s / 256 % 256 * 256 + s / 65536 % 256 * 65536 + s / 16777216 % 256 * 16777216 = s := by
  obtain ⟨h0, h1⟩ := h; omega

theorem be4s_row {w : World} {g o : Nat} : ∀ {l : List Int}, Row w g o (be4s l) → ∀ i (hi : i < l.length), Row w g (o + 4 * i) (be4 l[i])
  | [], _, i, hi => absurd hi (by simp)
  | s :: r, h, 0, hi => by simpa [be4s] using (show Row w g o (be4 s ++ be4s r) from h).left
  | s :: r, h, i + 1, hi => by
    have h2 := (show Row w g o (be4 s ++ be4s r) from h).right
    rw [be4_len] at h2
    have := be4s_row h2 i (by simpa using hi)
    have e : o + 4 + 4 * i = o + 4 * (i + 1) := by omega
    rw [e] at this
    simpa using this

/-- The octets of a list of packets. -/
def flat (ps : List Pk) : List Int := ps.flatMap Pk.bytes
theorem flat_cons (p : Pk) (ps : List Pk) : flat (p :: ps) = p.bytes ++ flat ps := rfl
theorem flat_append (ps qs : List Pk) : flat (ps ++ qs) = flat ps ++ flat qs := by simp [flat]

section
variable {w : World} {g o : Nat} {p : Pk} {l : List Int}
theorem Row.c0 (h : Row w g o (p.bytes ++ l)) : w.cell? ⟨g, o, none⟩ = some (.int .u8 (128 + p.cnt)) := h 0 _ rfl
theorem Row.c1 (h : Row w g o (p.bytes ++ l)) : w.cell? ⟨g, o + 1, none⟩ = some (.int .u8 p.typ) := h 1 _ rfl
theorem Row.c2 (h : Row w g o (p.bytes ++ l)) : w.cell? ⟨g, o + 2, none⟩ = some (.int .u8 0) := h 2 _ rfl
theorem Row.c3 (h : Row w g o (p.bytes ++ l)) : w.cell? ⟨g, o + 3, none⟩ = some (.int .u8 p.k) := h 3 _ rfl
end

/-- The packet at the head of the row is cut off. -/
theorem cut_pk (p : Pk) (l : List Int) (g o L cap : Nat) (w : World) (hp : p.ok) (hg : g < w.heap.size) (hr : Row w g o (p.bytes ++ l)) (hL : p.bytes.length ≤ L) (hLc : L ≤ cap) :
    Calls Ybaz.prog 41 #[.slice (some ⟨g, o, none⟩) L cap] w fun e w' => e = .returned (.tuple #[.agg #[.slice (some ⟨g, o, none⟩) (4 + 4 * p.k) cap, .int .i64 (4 + 4 * p.k : Nat)], fz]) ∧ Below w.heap.size w w' :=
  cut_any g o L cap p.cnt p.k w hg (by rw [p.len] at hL; exact hL) hLc (p.cnt_le hp) (p.k_le hp) hr.c0 hr.c2 hr.c3

/-- A packet of ours is without fault. -/
theorem check_pk (p : Pk) (l : List Int) (g o cap : Nat) (n : Int) (w : World) (hp : p.ok) (hg : g < w.heap.size) (hr : Row w g o (p.bytes ++ l)) (hLc : 4 + 4 * p.k ≤ cap) :
    Calls Ybaz.prog 44 #[.agg #[.slice (some ⟨g, o, none⟩) (4 + 4 * p.k) cap, .int .i64 n]] w fun e w' => e = .returned fz ∧ Below w.heap.size w w' := by
  have h0 := hr.c0
  have h1 := hr.c1
  cases p with
  | sr s => exact check200 g o _ cap n _ w hg hLc h0 h1 (by simp [Pk.k]) (and31 0 (by omega))
  | rr s => exact check201 g o _ cap n _ w hg hLc h0 h1 (by simp [Pk.k]) (and31 0 (by omega))
  | bye m => exact check203 g o _ cap n _ w hg hLc h0 h1 m.length hp.1 rfl (and31 m.length hp.1)
  | sdes => exact check202 g o _ cap n _ w hg hLc h0 h1 (by simp [Pk.k]) (and31 0 (by omega))

end Go.Proofs.YbulkdsruGreatDoor
