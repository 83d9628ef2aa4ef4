/-
  Words for the memory that the AS path laws read and make: a slice of uint32 told by its list of numbers ('U32'), rows of such slices ('Rows32'), an ASPath in memory ('PathAt'); that they stay where nothing old is written; one law for 'append(own, xs...)', xs nil or not.
-/
import Derived.Test.Qxb6604577aRows
import Derived.WalkKit
import Derived.WalkSpells
import Derived.Laws.AppendOwnNone
import Derived.Deep.AppendLies
namespace Go.Proofs.Qxb6604577a
open Go.RowKit

/-- What lies behind a header '.slice A xs.length c' of uint32s. -/
def U32 (w : World) (A : Option Addr) (xs : List Int) (c : Nat) : Prop :=
  (A = none → xs = [] ∧ c = 0) ∧ ∀ ad, A = some ad → ∀ j u, xs[j]? = some u → w.cell? (ad.add j) = some (.int .u32 u)
/-- n headers in a row, each over its uint32s. -/
def Rows32 (w : World) (b o n : Nat) (A : Nat → Option Addr) (X : Nat → List Int) (C : Nat → Nat) : Prop :=
  ∀ r, r < n → w.cell? ⟨b, o + r, none⟩ = some (.slice (A r) (X r).length (C r)) ∧ U32 w (A r) (X r) (C r)
/-- n segments in a row: type, header, header's numbers. -/
def PathAt (w : World) (g o n : Nat) (T : Nat → Int) (A : Nat → Option Addr) (X : Nat → List Int) (C : Nat → Nat) : Prop :=
  ∀ i, i < n → w.cell? ⟨g, o + i * 2, none⟩ = some (.int .u8 (T i)) ∧ w.cell? ⟨g, o + i * 2 + 1, none⟩ = some (.slice (A i) (X i).length (C i)) ∧ U32 w (A i) (X i) (C i)

theorem cell_on {w w' : World} {a : Addr} {v : Value} (hb : Below w.heap.size w w') (h : w.cell? a = some v) : w'.cell? a = some v := by
  have hlt : a.block < w.heap.size := by
    rcases Nat.lt_or_ge a.block w.heap.size with hl | hl
    · exact hl
    · simp [World.cell?, Array.getElem?_eq_none hl] at h
  rw [hb.cell hlt]; exact h
theorem U32.on {w w' : World} {A : Option Addr} {xs : List Int} {c : Nat} (h : U32 w A xs c) (hb : Below w.heap.size w w') : U32 w' A xs c :=
  ⟨h.1, fun ad ha j u hu => cell_on hb (h.2 ad ha j u hu)⟩
theorem Rows32.on {w w' : World} {b o n : Nat} {A : Nat → Option Addr} {X : Nat → List Int} {C : Nat → Nat} (h : Rows32 w b o n A X C) (hb : Below w.heap.size w w') : Rows32 w' b o n A X C :=
  fun r hr => ⟨cell_on hb (h r hr).1, (h r hr).2.on hb⟩
theorem PathAt.on {w w' : World} {g o n : Nat} {T : Nat → Int} {A : Nat → Option Addr} {X : Nat → List Int} {C : Nat → Nat} (h : PathAt w g o n T A X C) (hb : Below w.heap.size w w') : PathAt w' g o n T A X C :=
  fun r hr => ⟨cell_on hb (h r hr).1, cell_on hb (h r hr).2.1, (h r hr).2.2.on hb⟩

/-- All the numbers of the first k rows, in order. -/
def flat (X : Nat → List Int) (k : Nat) : List Int := (List.range k).flatMap X
theorem flat_zero (X : Nat → List Int) : flat X 0 = [] := rfl
theorem flat_succ (X : Nat → List Int) (k : Nat) : flat X (k + 1) = flat X k ++ X k := by simp [flat, List.range_succ]
theorem flat_mono (X : Nat → List Int) {j k : Nat} (h : j ≤ k) : (flat X j).length ≤ (flat X k).length := by
  induction k with
  | zero => have : j = 0 := by omega
            subst this; exact Nat.le_refl _
  | succ k ih =>
    rcases Nat.lt_or_ge j (k + 1) with hl | hl
    · have := ih (by omega); rw [flat_succ, List.length_append]; omega
    · have : j = k + 1 := by omega
      subst this; exact Nat.le_refl _

def u32s (xs : List Int) : List Value := xs.map (Value.int .u32)
theorem u32s_append (xs ys : List Int) : u32s (xs ++ ys) = u32s xs ++ u32s ys := by simp [u32s]
theorem u32s_length (xs : List Int) : (u32s xs).length = xs.length := by simp [u32s]
theorem u32s_one (xs : List Int) : ∀ u ∈ u32s xs, u.oneCell' = true := by
  intro u hu
  obtain ⟨x, _, rfl⟩ := List.mem_map.1 hu
  rfl

/-- The law on append onto an owned row, its source nil or not. -/
theorem wpList_append_any {P : Program} {w : World} {ops : Array Oper} {rest : List Oper} {o : Oper} {a : Act} {Q : Exit → Act → World → Prop} (hgd : o.guard = none) (s x : Operand) (t : TypeId)
    (ho : o.op = .call { callee := .builtin .append, args := #[s, x], argTypes := #[t, t] })
    (base : Nat) (e : TypeId) (i : TypeInfo) (z : Value) (size bytes : Nat) (ht : P.underlying t = some (.slice e)) (hi : P.info? e = some i) (hz : i.zero = some z)
    (hsize : i.size = size) (hby : i.bytes = bytes) (hzs : z.cells.size = size) (hsz : 0 < size)
    (v : Value) (n : Nat) (xs : List Value) (hs : a.eval s = v) (hown : w.ownsRow base e size v n xs)
    (A : Option Addr) (m c : Nat) (news : List Value) (hx : a.eval x = .slice A m c) (hl : news.length = m * size) (hA : A = none → m = 0 ∧ c = 0)
    (hnews : ∀ ad, A = some ad → ∀ j u, news[j]? = some u → w.cell? (ad.add j) = some u) (h1 : ∀ u ∈ news, u.oneCell' = true)
    (h63 : n + m ≤ maxLen) (hbytes : (n + m) * bytes ≤ 140737488355328) (hbase : base ≤ w.heap.size)
    (h : ∀ v' w', w'.ownsRow base e size v' (n + m) (xs ++ news) → w.grownBy w' v.ownBlock → wpList P ops Q rest (a.put o.dst v') w') : wpList P ops Q (o :: rest) a w := by
  cases A with
  | none =>
    obtain ⟨rfl, rfl⟩ := hA rfl
    refine wpList_append_own_none hgd s x t ho base e i size ht hi v n xs hs hown hx ?_
    have hn : news = [] := List.length_eq_zero_iff.1 (by simpa using hl)
    subst hn
    refine h v w (by simpa using hown) ⟨rfl, rfl, rfl, Nat.le_refl _, fun _ _ _ => rfl⟩
  | some ad =>
    exact wpList_append_own w hgd s x t ho base e i z size bytes ht hi hz hsize hby hzs hsz v n xs hs hown ad m c news hx hl (hnews ad rfl) h1 h63 hbytes hbase (fun v' w' h2 h3 _ => h v' w' h2 h3)

theorem below_grown {B : Nat} {w0 w w' : World} {e : TypeId} {size : Nat} {v : Value} {n : Nat} {xs : List Value} (hb : Below B w0 w) (hown : w.ownsRow B e size v n xs) (hB : B ≤ w0.heap.size) (hg : w.grownBy w' v.ownBlock) : Below B w0 w' :=
  hb.grown hg (Nat.le_trans hB hb.size) (fun k hk => (hown.lt k hk).1)
theorem src_cells {w : World} {A : Option Addr} {xs : List Int} {c : Nat} (h : U32 w A xs c) : ∀ ad, A = some ad → ∀ j u, (u32s xs)[j]? = some u → w.cell? (ad.add j) = some u := by
  intro ad ha j u hu
  simp only [u32s, List.getElem?_map, Option.map_eq_some_iff] at hu
  obtain ⟨x, hx, rfl⟩ := hu
  exact h.2 ad ha j x hx
theorem info22 : (Try.prog.info? 22).map (fun i => (i.zero, i.size, i.bytes)) = some (some (.int .u32 0), 1, 4) := by kernel_rfl
end Go.Proofs.Qxb6604577a
