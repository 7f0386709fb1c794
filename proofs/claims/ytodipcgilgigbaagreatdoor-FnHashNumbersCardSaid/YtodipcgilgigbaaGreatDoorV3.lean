/- Worlds that are alike but for some blocks; nat's set: a copy of a slice of words. -/
import Derived.Test.YtodipcgilgigbaaGreatDoorV2
import Derived.Laws.CopyOwn
import Derived.Laws.IdiomCopy
set_option linter.unusedVariables false
namespace Go.Proofs.YtodipcgilgigbaaGreatDoor.V
open Go Go.RowKit Go.Proofs.YtodipcgilgigbaaGreatDoor.I

/-- All blocks but those of S are as they were. -/
structure Off (S : Nat → Prop) (w w' : World) : Prop where
  os : w'.os = w.os
  tape : w'.tape = w.tape
  output : w'.output = w.output
  size : w.heap.size ≤ w'.heap.size
  block : ∀ k, k < w.heap.size → ¬ S k → w'.heap[k]? = w.heap[k]?
theorem Off.refl (S : Nat → Prop) (w : World) : Off S w w := ⟨rfl, rfl, rfl, Nat.le_refl _, fun _ _ _ => rfl⟩
theorem Off.trans {S : Nat → Prop} {a b c : World} (h : Off S a b) (k : Off S b c) : Off S a c :=
  ⟨k.os.trans h.os, k.tape.trans h.tape, k.output.trans h.output, Nat.le_trans h.size k.size, fun i hi hs => (k.block i (Nat.lt_of_lt_of_le hi h.size) hs).trans (h.block i hi hs)⟩
theorem Off.mono {S S' : Nat → Prop} {a b : World} (h : Off S a b) (hS : ∀ k, k < a.heap.size → S k → S' k) : Off S' a b :=
  ⟨h.os, h.tape, h.output, h.size, fun i hi hs => h.block i hi (fun h' => hs (hS i hi h'))⟩
/-- Two steps, of which the second may write what the first has made. -/
theorem Off.trans2 {S S' T : Nat → Prop} {a b c : World} (h : Off S a b) (k : Off S' b c) (hS : ∀ i, i < a.heap.size → S i → T i) (hS' : ∀ i, i < a.heap.size → S' i → T i) : Off T a c :=
  ⟨k.os.trans h.os, k.tape.trans h.tape, k.output.trans h.output, Nat.le_trans h.size k.size, fun i hi ht => (k.block i (Nat.lt_of_lt_of_le hi h.size) (fun h' => ht (hS' i hi h'))).trans (h.block i hi (fun h' => ht (hS i hi h')))⟩
theorem Off.of {S : Nat → Prop} {a b : World} (h : Below a.heap.size a b) : Off S a b := ⟨h.os, h.tape, h.output, h.size, fun k hk _ => h.block k hk⟩
theorem Off.below {S : Nat → Prop} {a b : World} {B : Nat} (h : Off S a b) (hB : B ≤ a.heap.size) (hS : ∀ k, S k → B ≤ k) : Below B a b := ⟨h.os, h.tape, h.output, h.size, fun k hk => h.block k (by omega) (fun hs => by have := hS k hs; omega)⟩
theorem Off.none {a b : World} (h : Off (fun _ => False) a b) : Below a.heap.size a b := h.below (Nat.le_refl _) (fun _ h => h.elim)
theorem Off.setCell {S : Nat → Prop} {a b : World} (h : Off S a b) {p : Addr} (hp : S p.block ∨ a.heap.size ≤ p.block) (v : Value) : Off S a (b.setCell p v) :=
  ⟨h.os, h.tape, h.output, Nat.le_trans h.size (by simp [World.setCell]), fun k hk hs => (Below.heap_setCell _ _ _ _ (by rintro rfl; rcases hp with hp | hp; exact hs hp; omega)).trans (h.block k hk hs)⟩
theorem Off.alloc {S : Nat → Prop} {a b : World} (h : Off S a b) (o : Obj) : Off S a (b.alloc o) :=
  h.trans2 (Off.of ((Below.refl _ b).alloc (Nat.le_refl _) o) : Off S b _) (fun _ _ h => h) (fun _ _ h => h)
theorem Off.drew {S : Nat → Prop} {a b : World} (h : Off S a b) : Off S a b.drew := ⟨h.os, h.tape, h.output, h.size, h.block⟩

theorem Row.off' {S : Nat → Prop} {w w' : World} {g cap : Nat} {xs : List Int} (h : Row w g cap xs) (ho : Off S w w') (hs : ¬ S g) : Row w' g cap xs := by
  obtain ⟨cs, hg, h1, h2, h3⟩ := h
  exact ⟨cs, (ho.block g (Array.getElem?_eq_some_iff.1 hg).1 hs).trans hg, h1, h2, h3⟩
/-- The slice of words, in no block of S. -/
def Clear (S : Nat → Prop) (v : Value) : Prop := ∀ g n c, v = .slice (some ⟨g, 0, none⟩) n c → ¬ S g
theorem IsW.off {S : Nat → Prop} {w w' : World} {v : Value} {xs : List Int} (h : IsW w v xs) (ho : Off S w w') (hs : Clear S v) : IsW w' v xs := by
  rcases h with h | ⟨g, cap, rfl, hr⟩
  · exact .inl h
  · exact .inr ⟨g, cap, rfl, hr.off' ho (hs g _ _ rfl)⟩
theorem IsW.form {w : World} {v : Value} {xs : List Int} (h : IsW w v xs) : ∃ A c, v = .slice A xs.length c ∧ xs.length ≤ c := by
  rcases h with ⟨rfl, rfl⟩ | ⟨g, cap, rfl, cs, hg, h1, h2, h3⟩
  · exact ⟨none, 0, rfl, Nat.le_refl _⟩
  · exact ⟨_, cap, rfl, h2⟩
/-- A slice that lies, if anywhere, from block B on. -/
def From (B : Nat) (v : Value) : Prop := ∀ g n c, v = .slice (some ⟨g, 0, none⟩) n c → B ≤ g
theorem From.clear {B : Nat} {v : Value} (h : From B v) {S : Nat → Prop} (hS : ∀ k, S k → k < B) : Clear S v := fun g n c e hs => by have := h g n c e; have := hS g hs; omega
theorem IsW.less {w : World} {v : Value} {xs : List Int} (h : IsW w v xs) : ∀ g n c, v = .slice (some ⟨g, 0, none⟩) n c → g < w.heap.size := by
  intro g n c e
  rcases h with ⟨rfl, _⟩ | ⟨g', cap, rfl, hr⟩
  · cases e
  · simp only [Value.slice.injEq, Option.some.injEq, Addr.mk.injEq] at e
    obtain ⟨⟨rfl, _⟩, _⟩ := e
    exact hr.lt
/-- A block of another type is none of the slice's. -/
theorem IsW.apart {w : World} {v : Value} {xs : List Int} (h : IsW w v xs) {b : Nat} {cs : Array Value} {T : TypeId} {m : Nat × Nat} (hb : w.heap[b]? = some (.cells cs T m)) (hT : T ≠ 166) : Clear (fun k => k = b) v := by
  intro g n c e hk
  subst hk
  rcases h with ⟨rfl, _⟩ | ⟨g', cap, rfl, cs', hg, _⟩
  · cases e
  · simp only [Value.slice.injEq, Option.some.injEq, Addr.mk.injEq] at e
    obtain ⟨⟨rfl, _⟩, _⟩ := e
    rw [hg] at hb
    simp only [Option.some.injEq, Obj.cells.injEq] at hb
    exact hT hb.2.1.symm
theorem IsW.setOther {w : World} {v : Value} {xs : List Int} (h : IsW w v xs) {b : Nat} {cs : Array Value} {T : TypeId} {m : Nat × Nat} (hb : w.heap[b]? = some (.cells cs T m)) (hT : T ≠ 166) (i : Nat) (u : Value) : IsW (w.setCell ⟨b, i, none⟩ u) v xs :=
  h.off (S := fun k => k = b) ((Off.refl (fun k => k = b) w).setCell (p := ⟨b, i, none⟩) (.inl rfl) u) (h.apart hb hT)
theorem one_words {xs : List Int} : ∀ v ∈ xs.map (Value.int .u64), v.oneCell' = true := by
  intro v hv
  obtain ⟨x, _, rfl⟩ := List.mem_map.1 hv
  rfl
theorem Row.src {w : World} {g cap : Nat} {xs : List Int} (h : Row w g cap xs) : ∀ j v, (xs.map (Value.int .u64))[j]? = some v → w.cell? ((⟨g, 0, none⟩ : Addr).add j) = some v := by
  intro j v hv
  rw [List.getElem?_map] at hv
  cases hx : xs[j]? with
  | none => rw [hx] at hv; cases hv
  | some x =>
    rw [hx] at hv
    cases hv
    have e : (⟨g, 0, none⟩ : Addr).add j = ⟨g, j, none⟩ := by unfold Addr.add; split <;> simp_all
    rw [e]
    exact h.cell hx
/-- What copy leaves in a row at whose head it has written. -/
theorem Row.copied {w : World} {g : Nat} {cs : Array Value} {xs : List Int} (hg : w.heap[g]? = some (.cells cs 166 (0, 0))) (hl : xs.length ≤ cs.size) : Row (w.setRow g (xs.map (Value.int .u64) ++ cs.toList.drop xs.length).toArray) g cs.size xs := by
  refine ⟨_, setRow_heap w g cs _ _ _ hg, ?_, hl, fun i x hx => ?_⟩
  · simp; omega
  · have hi : i < xs.length := (List.getElem?_eq_some_iff.1 hx).1
    have hx' : xs[i] = x := by rw [List.getElem?_eq_getElem hi] at hx; exact Option.some.inj hx
    simp [List.getElem?_append, hi, hx']
theorem below_row {B g : Nat} {w0 w : World} (hb : Below B w0 w) (hBg : B ≤ g) (cs : Array Value) : Below B w0 (w.setRow g cs) := below_setRow hb hBg cs
set_option maxRecDepth 100000 in
set_option maxHeartbeats 1000000 in
/-- nat(nil).set(x): x again, in a block of its own. -/
theorem set_call (v : Value) (xs : List Int) (hl : xs.length ≤ 1000) (w : World) (h : IsW w v xs) : Calls Tryz.prog 72 #[.slice none 0 0, v] w fun e w' => ∃ v', e = .returned v' ∧ IsW w' v' xs ∧ Below w.heap.size w w' ∧ From w.heap.size v' := by
  obtain ⟨A, c, rfl, hc⟩ := h.form
  have hs1 : (Tryz.prog.info? 166).map (·.size) = some 1 := by kernel_rfl
  have MC := make_call xs.length hl
  go_enter Tryz.func72, Tryz.ntmps72
  go_wp2_with fail
  refine (MC _).mono ?_
  rintro _ w1 ⟨v1, rfl, hv1, hb1, hor⟩
  rcases hor with ⟨rfl, hn, rfl⟩ | ⟨cap, rfl, hn, hsz, hr⟩
  · obtain rfl : xs = [] := List.eq_nil_of_length_eq_zero hn
    have hcp := fun ty => run_copy_none (P := Tryz.prog) w1 141 141 ty 166 none A 0 0 0 c Tryz.underlying141 hs1 (by simp)
    go_wp2_with fail
    go_ret
    exact ⟨_, rfl, .inl ⟨rfl, rfl⟩, Below.refl _ _, fun g n c e => by cases e⟩
  · rcases h with ⟨h1, rfl⟩ | ⟨g, cap', h1, hr0⟩
    · simp at hn
    · simp only [Value.slice.injEq, true_and] at h1
      obtain ⟨rfl, rfl⟩ := h1
      obtain ⟨cs, hg, h2, h3, h4⟩ := hr
      have hg1 := hr0.below hb1
      have hcp := fun ty => run_copy_row (P := Tryz.prog) w1 141 141 ty 166 w.heap.size 0 xs.length cap ⟨g, 0, none⟩ xs.length c cs _ (xs.map (Value.int .u64)) Tryz.underlying141 hs1 hg (by simp) hg1.src (by simp at h3 ⊢; omega) one_words
      go_wp2_with fail
      go_ret
      have hlen : xs.length ≤ cs.size := by simpa [h2] using h3
      subst h2
      exact ⟨_, rfl, .inr ⟨_, _, rfl, Row.copied hg hlen⟩, below_setRow hb1 (Nat.le_refl _) _, fun g n c e => by cases e; exact Nat.le_refl _⟩
end Go.Proofs.YtodipcgilgigbaaGreatDoor.V
