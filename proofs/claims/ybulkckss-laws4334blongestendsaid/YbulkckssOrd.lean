import Derived.Test.YbulkckssMem
import Derived.Test.YbulkckssLex
import Derived.Test.YbulkckssShelf
namespace Go.Proofs.Ybulkckss
open Go.RowKit Go.Lib Go.Sort
variable {w w' : World}

/-- the texts lie in block XB, their slice in the variable TB -/
structure TX (TB XB n cap : Nat) (tx : Nat → ByteArray) (w : World) : Prop where
  box : w.cell? ⟨TB, 0, none⟩ = some (.slice (some ⟨XB, 0, none⟩) n cap)
  txt : ∀ i, i < n → w.cell? ⟨XB, i, none⟩ = some (.string (tx i))
  hT : TB < w.heap.size
  hX : XB < w.heap.size
theorem TX.kept {TB XB n cap : Nat} {tx : Nat → ByteArray} {S : Nat → Prop} (h : TX TB XB n cap tx w) (k : Kept S w w') (h1 : ¬ S TB) (h2 : ¬ S XB) : TX TB XB n cap tx w' :=
  ⟨(World.cell?_of_block (k.block TB h.hT h1)).trans h.box, fun i hi => (World.cell?_of_block (k.block XB h.hX h2)).trans (h.txt i hi), Nat.lt_of_lt_of_le h.hT k.size, Nat.lt_of_lt_of_le h.hX k.size⟩

abbrev bl (s : ByteArray) : List UInt8 := s.data.toList
set_option maxHeartbeats 1000000 in
set_option maxRecDepth 100000 in
/-- the sort's comparison -/
theorem closure15 {TB XB n cap : Nat} {tx : Nat → ByteArray} (h : TX TB XB n cap tx w) {x y : Nat} (hx : x < n) (hy : y < n) :
    Calls Yba.prog 15 #[.int .i32 x, .int .i32 y, .pointer (some ⟨TB, 0, none⟩)] w fun e w' => e = .returned (.int .i64 (compareBytes (bl (tx x)) (bl (tx y)))) ∧ w' = w.drew := by
  have C := Yba.strings_Compare (tx x) (tx y)
  have c0 := h.box
  have cx := h.txt x hx
  have cy := h.txt y hy
  have i1 : (x : Int) < (n : Int) := by omega
  have i2 : (y : Int) < (n : Int) := by omega
  have i3 : (0 : Int) ≤ (x : Int) := by omega
  have i4 : (0 : Int) ≤ (y : Int) := by omega
  generalize compareBytes (bl (tx x)) (bl (tx y)) = r at *
  go_enter Yba.func15, Yba.ntmps15
  go_wp2_with fail
  go_region_held3 (fun w' => w'.cell? ⟨TB, 0, none⟩ = some (.slice (some ⟨XB, 0, none⟩) n cap) ∧ w'.cell? ⟨XB, x, none⟩ = some (.string (tx x)) ∧ w'.cell? ⟨XB, y, none⟩ = some (.string (tx y))) (go_keep)
    (first | (go_at_call 16; refine (C _).mono ?_; rintro e w1 ⟨rfl, rfl⟩))
  go_wp2_with fail
  go_ret
  exact ⟨rfl, rfl⟩

theorem kept_sort {α : Type} [Inhabited α] (enc : α → Value) (w : World) (g m : Nat) (d : Array α) (os : Array Obj) : Kept (fun k => k = g) w (sortWorld enc w g 0 m d os) := by
  refine ⟨rfl, rfl, rfl, by simp [sortWorld], fun k hk hne => ?_⟩
  unfold sortWorld
  rw [heap_grow_old _ _ (by simpa using hk)]
  have : g ≠ k := fun e => hne e.symm
  simp [putRow, mapBlock, Sort.ahead, Array.getElem?_modify, this]
theorem ty_sort {α : Type} [Inhabited α] (enc : α → Value) (w : World) (g m : Nat) (d : Array α) (os : Array Obj) {t : TypeId} (h : tyOf w g = some t) : tyOf (sortWorld enc w g 0 m d os) g = some t := by
  obtain ⟨cs, hb⟩ := tyOf_blk h
  have hg := tyOf_lt h
  unfold sortWorld
  have : (grow (putRow enc (Sort.ahead w m) g 0 d) os).heap[g]? = some (.cells (putCells enc 0 d cs) t (0, 0)) := by
    rw [heap_grow_old _ _ (by simpa using hg)]
    simp [putRow, mapBlock, Sort.ahead, Array.getElem?_modify, hb, onCells]
  exact tyOf_of this

def cfT (tx : Nat → ByteArray) {k : Nat} (x y : Fin (k + 1)) : Int := compareBytes (bl (tx x)) (bl (tx y))
theorem swoT (tx : Nat → ByteArray) {k : Nat} : SWO (ltOf (cfT tx (k := k))) := by
  have e : ∀ x y : Fin (k + 1), ltOf (cfT tx) x y = true ↔ compareBytes (bl (tx x)) (bl (tx y)) < 0 := fun x y => by unfold ltOf cfT; simp
  have e' : ∀ x y : Fin (k + 1), ltOf (cfT tx) x y = false ↔ compareBytes (bl (tx y)) (bl (tx x)) ≤ 0 := fun x y => by
    have := cb_swap (bl (tx x)) (bl (tx y))
    unfold ltOf cfT; simp; omega
  refine ⟨fun x => ?_, fun x y z h1 h2 => ?_, fun x y z h1 h2 => ?_⟩
  · rw [e']; rw [cb_refl]; exact Int.le_refl _
  · rw [e] at *
    have h3 := cb_trans (a := bl (tx x)) (b := bl (tx y)) (c := bl (tx z)) (by omega) (by omega)
    have h5 : ¬ compareBytes (bl (tx x)) (bl (tx z)) = 0 := fun h0 => by
      have h4 := cb_eq h0
      rw [h4] at h1
      have := cb_swap (bl (tx z)) (bl (tx y))
      omega
    omega
  · rw [e'] at *
    exact cb_trans h2 h1

/-- the texts' order -/
theorem order_call {TB XB OB k cap capO : Nat} {tx : Nat → ByteArray} (h : TX TB XB (k + 1) cap tx w) (d : Array (Fin (k + 1))) (hd : d.size = k + 1) (tO : tyOf w OB = some 21) (hO : ∀ j, j < k + 1 → w.cell? ⟨OB, j, none⟩ = some (.int .i32 (d[j]!).val)) (h1 : OB ≠ TB) (h2 : OB ≠ XB) (hk : k < 256) :
    Calls Yba.prog 14 #[.slice (some ⟨OB, 0, none⟩) (k + 1) capO, .func (.func 15) #[] #[.pointer (some ⟨TB, 0, none⟩)]] w fun e w' => e = .returned (.tuple #[]) ∧ ∃ d' : Array (Fin (k + 1)), d'.size = k + 1 ∧ Kept (fun x => x = OB) w w' ∧ tyOf w' OB = some 21 ∧
      (∀ j, j < k + 1 → w'.cell? ⟨OB, j, none⟩ = some (.int .i32 (d'[j]!).val)) ∧ d'.toList.Perm d.toList ∧ ∀ i j, i < j → j < k + 1 → compareBytes (bl (tx (d'[i]!).val)) (bl (tx (d'[j]!).val)) ≤ 0 := by
  have eg : ∀ args w, (callFunc 15 args).run Yba.prog w = .ok (.enter 15 args) w := enters_of Yba.func15 (by kernel_rfl) rfl
  have hH : Holds (fun x : Fin (k + 1) => Value.int .i32 (x.val : Int)) w OB 0 d := fun j hj => ⟨by rw [Nat.zero_add]; exact hO j (by omega), tyOf_frozen tO _⟩
  have hcmp : CmpLays1 Yba.prog 15 #[.pointer (some ⟨TB, 0, none⟩)] (fun x : Fin (k + 1) => Value.int .i32 (x.val : Int)) (cfT tx) OB 0 d.size w := fun m os dk _ x y => by
    have hT := h.kept (kept_sort (fun x : Fin (k + 1) => Value.int .i32 (x.val : Int)) w OB m dk os) (fun e => h1 e.symm) (fun e => h2 e.symm)
    refine (closure15 hT x.isLt y.isLt).mono ?_
    rintro e w' ⟨rfl, rfl⟩
    exact ⟨rfl, 1, #[], by rw [grow_empty]; rfl⟩
  have S := Any.slices_SortFunc Yba.sortF (fun x : Fin (k + 1) => Value.int .i32 (x.val : Int)) (fun _ => rfl) (cfT tx) (swoT tx) 15 #[.pointer (some ⟨TB, 0, none⟩)] OB 0 capO d w eg hcmp hH (tyOf_lt tO) (by omega)
  rw [hd] at S
  refine S.mono ?_
  rintro e w' ⟨rfl, d', m, os, hp, hs, rfl⟩
  have hsz : d'.size = k + 1 := hp.1.trans hd
  refine ⟨rfl, d', hsz, kept_sort _ w OB m d' os, ty_sort _ w OB m d' os tO, fun j hj => ?_, ?_, fun i j hij hj => ?_⟩
  · have := (holds_sortWorld (fun x : Fin (k + 1) => Value.int .i32 (x.val : Int)) w OB 0 m d d' os (tyOf_lt tO) hH (hsz.trans hd.symm) j (by omega)).1
    rwa [Nat.zero_add] at this
  · have := hp.2.2
    rwa [Array.extract_eq_self_of_le (by omega), Array.extract_eq_self_of_le (by omega)] at this
  · have h3 := hs i j (Nat.zero_le _) hij hj
    have := cb_swap (bl (tx (d'[j]!).val)) (bl (tx (d'[i]!).val))
    unfold ltOf cfT at h3
    simp at h3
    omega
end Go.Proofs.Ybulkckss
