/-
  LawS3470BStep4: THE WALK.
-/
import Derived.Test.YbulkbsvmDoorFound
import Derived.Deep.DeepCutAuto
import Derived.Deep.CutBlock
namespace Go.Proofs.YbulkbsvmDoor
open Go Go.RowKit

abbrev endsV : Array Value := #[.string ⟨#[97, 108]⟩, .string ⟨#[97, 110, 99, 101]⟩, .string ⟨#[101, 110, 99, 101]⟩, .string ⟨#[101, 114]⟩, .string ⟨#[105, 99]⟩, .string ⟨#[97, 98, 108, 101]⟩, .string ⟨#[105, 98, 108, 101]⟩, .string ⟨#[97, 110, 116]⟩,
  .string ⟨#[101, 109, 101, 110, 116]⟩, .string ⟨#[109, 101, 110, 116]⟩, .string ⟨#[101, 110, 116]⟩, .string ⟨#[105, 115, 109]⟩, .string ⟨#[97, 116, 101]⟩, .string ⟨#[105, 116, 105]⟩, .string ⟨#[111, 117, 115]⟩, .string ⟨#[105, 118, 101]⟩,
  .string ⟨#[105, 122, 101]⟩, .string ⟨#[105, 111, 110]⟩, .string ⟨#[115, 105, 111, 110]⟩, .string ⟨#[120, 105, 111, 110]⟩, .string ⟨#[]⟩]
/-- Each is a short string of bytes below 128. -/
theorem ends_at (j : Nat) (hj : j < 21) : ∃ E : ByteArray, endsV[j]? = some (.string E) ∧ E.size ≤ 5 ∧ ∀ i (h : i < E.size), E[i].toNat < 128 := by
  have h : ∀ E : ByteArray, (E.size ≤ 5 ∧ E.data.toList.all (fun x => decide (x.toNat < 128)) = true) → E.size ≤ 5 ∧ ∀ i (h : i < E.size), E[i].toNat < 128 := fun E hE => by
    refine ⟨hE.1, fun i hi => ?_⟩
    have := List.all_eq_true.1 hE.2 E.data[i] (by simp)
    have h2 : E.data[i].toNat < 128 := by simpa using this
    exact h2
  match j, hj with
  | 0, _ => exact ⟨_, rfl, h _ (by decide)⟩
  | 1, _ => exact ⟨_, rfl, h _ (by decide)⟩
  | 2, _ => exact ⟨_, rfl, h _ (by decide)⟩
  | 3, _ => exact ⟨_, rfl, h _ (by decide)⟩
  | 4, _ => exact ⟨_, rfl, h _ (by decide)⟩
  | 5, _ => exact ⟨_, rfl, h _ (by decide)⟩
  | 6, _ => exact ⟨_, rfl, h _ (by decide)⟩
  | 7, _ => exact ⟨_, rfl, h _ (by decide)⟩
  | 8, _ => exact ⟨_, rfl, h _ (by decide)⟩
  | 9, _ => exact ⟨_, rfl, h _ (by decide)⟩
  | 10, _ => exact ⟨_, rfl, h _ (by decide)⟩
  | 11, _ => exact ⟨_, rfl, h _ (by decide)⟩
  | 12, _ => exact ⟨_, rfl, h _ (by decide)⟩
  | 13, _ => exact ⟨_, rfl, h _ (by decide)⟩
  | 14, _ => exact ⟨_, rfl, h _ (by decide)⟩
  | 15, _ => exact ⟨_, rfl, h _ (by decide)⟩
  | 16, _ => exact ⟨_, rfl, h _ (by decide)⟩
  | 17, _ => exact ⟨_, rfl, h _ (by decide)⟩
  | 18, _ => exact ⟨_, rfl, h _ (by decide)⟩
  | 19, _ => exact ⟨_, rfl, h _ (by decide)⟩
  | 20, _ => exact ⟨_, rfl, h _ (by decide)⟩
  | n + 21, hj => omega

/-- 'make([]rune, 0, c)'. -/
theorem makeRunes (c : Nat) (hc : c ≤ 1000000) (w : World) :
    (Instr.makeSlice 24 (.int .i64 0) (.int .i64 (c : Int))).run Ybad.prog w = .ok (.slice (some ⟨w.heap.size, 0, none⟩) 0 c) (w.alloc (.cells (madeCells #[.int .i32 0] c) 21)) := by
  obtain ⟨i, hi, hz, hs, hb⟩ := info21
  have h := run_make (P := Ybad.prog) w 24 21 i (.int .i32 0) Ybad.underlying24 hi hz .i64 .i64 0 (c : Int) (by omega) (by omega) (by rw [hb]; omega) (by omega)
  rw [h, hs]
  simp [Value.cells]

abbrev tbl : ByteArray := ⟨#[97, 108, 110, 99, 101, 114, 98, 105, 116, 109, 115, 111, 117, 118, 122, 121]⟩
def tblN (j : Nat) : Nat := ((tbl.data.toList)[j]?.getD 0).toNat
def pre16 (zs : List Int) : List Nat := zs.map fun z => tblN (z.toNat % 16)
theorem tblN_eq (j : Nat) (h : j < tbl.size) : (tbl[j]).toNat = tblN j := by
  have h2 : j < tbl.data.toList.length := h
  simp only [tblN, List.getElem?_eq_getElem h2, Option.getD_some]
  rfl
theorem tbl_lt (j : Nat) (h : j < tbl.size) : (tbl[j]).toNat < 128 := by
  have h1 : (tbl.data.toList.all fun x => decide (x.toNat < 128)) = true := by decide
  have := List.all_eq_true.1 h1 tbl.data.toList[j] (List.getElem_mem _)
  have h2 : (tbl.data.toList[j]).toNat < 128 := by simpa using this
  exact h2
theorem pre16_lt {zs : List Int} (hz : ∀ z ∈ zs, 0 ≤ z ∧ z < 256) : ∀ x ∈ pre16 zs, x < 128 := by
  intro x hx
  obtain ⟨z, hz1, rfl⟩ := List.mem_map.1 hx
  have := hz z hz1
  have h : z.toNat % 16 < tbl.size := by
    show z.toNat % 16 < 16
    omega
  rw [← tblN_eq _ h]
  exact tbl_lt _ h
theorem own_more {w : World} {B n x : Nat} {v : Value} {ys : List Nat} (hl : ys.length = n) (h : w.ownsRow B 21 1 v (n + 1) (rc ys ++ [Value.int .i32 (x : Int)])) (hn : ¬ v = .slice none 0 0) : Own w B v (ys ++ [x]) := by
  have e1 : rc (ys ++ [x]) = rc ys ++ [Value.int .i32 (x : Int)] := by simp [rc]
  have e2 : (ys ++ [x]).length = n + 1 := by simp [hl]
  refine ⟨by rw [e1, e2]; exact h, ?_⟩
  rw [e2]
  rcases h.2 with ⟨h1, _⟩ | ⟨g, cap, _, hv, _⟩
  · exact absurd h1 hn
  · exact ⟨g, cap, hv⟩
def Came (w : World) (ao : Option Addr) (zs : List Int) : Prop := zs = [] ∨ ∃ b o, ao = some ⟨b, o, none⟩ ∧ ∀ j (h : j < zs.length), w.cell? ⟨b, o + j, none⟩ = some (.int .u8 zs[j])

theorem Runes.take {w : World} {b o : Nat} {rs : List Nat} (h : Runes w b o rs) (k : Nat) : Runes w b o (rs.take k) := fun j hj => by
  rw [List.getElem_take]
  exact h j (by rw [List.length_take] at hj; omega)
/-- 'string(orig[n-k:])'. -/
theorem tail_string {Z : World} {b : Nat} {rs : List Nat} (h : Runes Z b 0 rs) {k : Nat} (hk : k ≤ rs.length) (c : Nat) :
    (convert 24 9 (.slice (some ⟨b, rs.length - k, none⟩) k c)).run Ybad.prog Z = .ok (.string (runesBytes ((rs.drop (rs.length - k)).map fun n : Nat => (n : Int)))) Z := by
  have hl : ((rs.drop (rs.length - k)).map fun n : Nat => (n : Int)).length = k := by rw [List.length_map, List.length_drop]; omega
  have h2 := run_convert_runes Z 24 9 21 ⟨b, rs.length - k, none⟩ k c ((rs.drop (rs.length - k)).map fun n : Nat => (n : Int)) (by omega) Ybad.underlying24 Ybad.underlying21 Ybad.underlying9 (fun j hj => by
    rw [hl] at hj
    have e : (⟨b, rs.length - k, none⟩ : Addr).add j = ⟨b, 0 + (rs.length - k + j), none⟩ := by
      simp [Addr.add]
      try omega
    rw [e, h (rs.length - k + j) (by omega)]
    simp [List.getD_eq_getElem?_getD, List.getElem?_eq_getElem (show rs.length - k + j < rs.length by omega)])
  rw [List.take_of_length_le (by omega)] at h2
  exact h2
/-- The memory behind step4. -/
structure Aft (w Z : World) (s0 wb g g2 rcap reg : Nat) (rs : List Nat) : Prop where
  c0 : Z.cell? ⟨wb, 0, none⟩ = some (.slice (some ⟨g, 0, none⟩) (rs.length - cutOf rs reg (longest rs tab)) rcap)
  c1 : Z.cell? ⟨wb, 1, none⟩ = some (.int .i64 7)
  c2 : Z.cell? ⟨wb, 2, none⟩ = some (.int .i64 (reg : Int))
  r1 : Runes Z g 0 rs
  r2 : Runes Z g2 0 rs
  be : Below s0 w Z

theorem after_step4 (w w1 : World) (s0 wb g g2 rcap reg : Nat) (rs : List Nat) (tb tq tcap : Nat) (hs0 : s0 = w.heap.size) (hwb : wb = w1.heap.size) (hbe : Below s0 w w1) (hR1 : Runes w1 g 0 rs) (hR2 : Runes w1 g2 0 rs) (hg1 : g < wb) (hg2 : g2 < wb)
    (hcap : rs.length ≤ rcap) (hl : rs.length < 1000000)
    (hg : w.cell? ⟨0, 0, none⟩ = some (.slice (some ⟨tb, tq, none⟩) tab.length tcap)) (htab : ∀ j (hj : j < tab.length), w.cell? ⟨tb, tq + j, none⟩ = some (.string tab[j])) :
    Calls Ybad.prog 5 #[.pointer (some ⟨wb, 0, none⟩)] (w1.alloc (.cells #[.slice (some ⟨g, 0, none⟩) rs.length rcap, .int .i64 7, .int .i64 (reg : Int)] 28)) fun e Z => e = .returned (.tuple #[]) ∧ Aft w Z s0 wb g g2 rcap reg rs := by
  subst hwb hs0
  have hal : (w1.alloc (.cells #[.slice (some ⟨g, 0, none⟩) rs.length rcap, .int .i64 7, .int .i64 (reg : Int)] 28)).heap[w1.heap.size]? = some (.cells #[.slice (some ⟨g, 0, none⟩) rs.length rcap, .int .i64 7, .int .i64 (reg : Int)] 28 (0, 0)) := heap_alloc_new w1 _
  have hb2 : Below w.heap.size w (w1.alloc (.cells #[.slice (some ⟨g, 0, none⟩) rs.length rcap, .int .i64 7, .int .i64 (reg : Int)] 28)) := hbe.alloc hbe.size _
  have hb3 : Below w1.heap.size w1 (w1.alloc (.cells #[.slice (some ⟨g, 0, none⟩) rs.length rcap, .int .i64 7, .int .i64 (reg : Int)] 28)) := (Below.refl _ _).alloc (Nat.le_refl _) _
  have hws := hbe.size
  generalize w1.alloc (.cells #[.slice (some ⟨g, 0, none⟩) rs.length rcap, .int .i64 7, .int .i64 (reg : Int)] 28) = W at *
  have k0 : W.cell? ⟨w1.heap.size, 0, none⟩ = some (.slice (some ⟨g, 0, none⟩) rs.length rcap) := by simp [World.cell?, hal]
  have k1 : W.cell? ⟨w1.heap.size, 1, none⟩ = some (.int .i64 7) := by simp [World.cell?, hal]
  have k2 : W.cell? ⟨w1.heap.size, 2, none⟩ = some (.int .i64 (reg : Int)) := by simp [World.cell?, hal]
  have z0 : W.frozen? ⟨w1.heap.size, 0, none⟩ = false := by simp [World.frozen?, hal]
  have q1 : Runes W g 0 rs := fun j hj => (hb3.cell (p := ⟨g, 0 + j, none⟩) hg1).trans (hR1 j hj)
  have q2 : Runes W g2 0 rs := fun j hj => (hb3.cell (p := ⟨g2, 0 + j, none⟩) hg2).trans (hR2 j hj)
  have hsz : ∀ t ∈ tab, 1 ≤ t.size ∧ t.size ≤ 10 := fun t ht => by
    have := tab_size t ht
    omega
  have hgW : W.cell? ⟨0, 0, none⟩ = some (.slice (some ⟨tb, tq, none⟩) tab.length tcap) := (hb2.cell (p := ⟨0, 0, none⟩) (World.block_lt_of_cell? _ _ hg)).trans hg
  have htW : ∀ j (hj : j < tab.length), W.cell? ⟨tb, tq + j, none⟩ = some (.string tab[j]) := fun j hj => (hb2.cell (p := ⟨tb, tq + j, none⟩) (World.block_lt_of_cell? _ _ (htab j hj))).trans (htab j hj)
  refine (step4_any W w1.heap.size g rcap rs 7 reg ⟨k0, k1, k2, z0, hcap, hl, q1⟩ tb tq tcap tab hgW htW hsz (by decide)).mono ?_
  rintro e Z ⟨rfl, m, rfl⟩
  refine ⟨rfl, World.cell?_setCell_same _ _ _ k0, (World.cell?_setCell_other _ _ _ _ (by intro q; cases q)).trans k1, (World.cell?_setCell_other _ _ _ _ (by intro q; cases q)).trans k2,
    fun j hj => (World.cell?_setCell_other _ _ _ _ (by intro q; have := congrArg Addr.block q; simp at this; omega)).trans (q1 j hj), fun j hj => (World.cell?_setCell_other _ _ _ _ (by intro q; have := congrArg Addr.block q; simp at this; omega)).trans (q2 j hj), ?_⟩
  exact (hb2.setCell hws _).trans ⟨rfl, rfl, rfl, Nat.le_refl _, fun _ _ => rfl⟩

set_option maxRecDepth 100000 in
set_option maxHeartbeats 1600000 in
theorem walk (w : World) (ao : Option Addr) (cap : Nat) (zs : List Int) (p r2 : Nat) (hp : p < 256) (hr : r2 < 256) (hz : ∀ z ∈ zs, 0 ≤ z ∧ z < 256) (hc : Came w ao zs) (hn : zs.length ≤ 1024) 
    (tb tq tcap : Nat) (hg : w.cell? ⟨0, 0, none⟩ = some (.slice (some ⟨tb, tq, none⟩) tab.length tcap)) (htab : ∀ j (hj : j < tab.length), w.cell? ⟨tb, tq + j, none⟩ = some (.string tab[j])) :
    Calls Ybad.prog 3 #[.slice ao zs.length cap, .int .u8 p, .int .u8 r2] w fun e w' => e = .returned (.bool true) ∧ Below w.heap.size w w' := by
  have hn' : ¬ ((1024 : Int) < (zs.length : Int)) := by omega
  obtain ⟨E, hE, hE5, hEa⟩ := ends_at (p % 21) (by omega)
  obtain ⟨W1, HW1⟩ : ∃ W1, Hid (W1 = w.alloc (.cells endsV 9)) := ⟨_, rfl⟩
  obtain ⟨s0, HS0⟩ : ∃ s0, Hid (s0 = w.heap.size) := ⟨_, rfl⟩
  have cE : W1.cell? ⟨s0, p % 21, none⟩ = some (.string E) := by
    rw [HW1.out, HS0.out, World.cell?, heap_alloc_new]
    exact hE
  have z1 : W1.heap.size = s0 + 1 := by rw [HW1.out, HS0.out]; simp
  have b1 : Below s0 w W1 := by rw [HW1.out, HS0.out]; exact (Below.refl _ _).alloc (Nat.le_refl _) _
  have hmk := makeRunes (zs.length + 5) (by omega)
  have hc5 : ((zs.length + 5 : Nat) : Int) = (zs.length : Int) + 5 := by omega
  simp only [hc5] at hmk
  have hmks : (madeCells #[.int .i32 0] (zs.length + 5)).size = (zs.length + 5) * 1 := by rw [size_madeCells, Nat.mul_one]
  generalize madeCells #[.int .i32 0] (zs.length + 5) = mk at *
  have hmod : (p : Int) % 21 = ((p % 21 : Nat) : Int) := by omega
  have own0 : Own (W1.alloc (.cells mk 21)) s0 (.slice (some ⟨s0 + 1, 0, none⟩) 0 (zs.length + 5)) [] := by
    rw [← z1]
    exact ⟨World.ownsRow_made W1 mk (zs.length + 5) (by omega) (by unfold maxLen; omega) hmks, _, _, rfl⟩
  have b2 : Below s0 w (W1.alloc (.cells mk 21)) := b1.alloc (by omega) _
  generalize p % 21 = pk at *
  have HT := hid htab
  clear hmks htab hE
  obtain ⟨i0, hi, hz0, hz1, hz2⟩ := info21
  go_enter Ybad.func3, Ybad.ntmps3
  go_upto_region 4 with fail
  rw [← HW1.out, ← HS0.out]
  go_wp2_with fail
  go_loopw [9, 39] (fun v vi wr => ∃ i : Nat, vi = .int .i64 (i : Int) ∧ i ≤ zs.length ∧ Own wr s0 v ((pre16 zs).take i) ∧ Below s0 w wr) (fun _ vi _ => zs.length - (intOf vi).toNat)
  case atStart => exact ⟨0, rfl, Nat.zero_le _, own0, b2⟩
  case round =>
    obtain ⟨i, rfl, hi1, hown, hbe⟩ := hrel
    by_cases hlt : i < zs.length
    · have hlt' : (i : Int) < (zs.length : Int) := by omega
      obtain ⟨b, o, rfl, hcell⟩ : ∃ b o, ao = some ⟨b, o, none⟩ ∧ wr.cell? ⟨b, o + i, none⟩ = some (.int .u8 zs[i]) := by
        rcases hc with rfl | ⟨b, o, h1, h2⟩
        · simp at hlt
        · have hb := h2 i hlt
          refine ⟨b, o, h1, ?_⟩
          rw [hbe.cell (by rw [HS0.out]; exact World.block_lt_of_cell? _ _ hb)]
          exact hb
      have hzi := hz zs[i] (List.getElem_mem hlt)
      have hxi : (zs[i] % 16).toNat < tbl.size := by
        show (zs[i] % 16).toNat < 16
        omega
      obtain ⟨x, hx, hx1, hx2⟩ : ∃ x : Nat, (tbl[(zs[i] % 16).toNat]).toNat = x ∧ x < 128 ∧ (pre16 zs).take (i + 1) = (pre16 zs).take i ++ [x] := by
        refine ⟨_, rfl, tbl_lt _ hxi, ?_⟩
        have hl : i < (pre16 zs).length := by simp [pre16]; exact hlt
        rw [List.take_succ_eq_append_getElem hl]
        congr 2
        simp only [pre16, List.getElem_map]
        rw [tblN_eq _ hxi]
        congr 1
        omega
      have HX2 := hid hx2
      clear hx2
      obtain ⟨hown1, HOWN⟩ := hown
      have hl0 : ((pre16 zs).take i).length = i := by simp [pre16]; omega
      generalize (pre16 zs).take i = ys at *
      rw [hl0] at hown1
      have hown2 := hown1.alloc (.cells #[.int .i32 (x : Int)] 21)
      have hws := hbe.size
      have hws0 : w.heap.size = s0 := HS0.out.symm
      go_wp2_with (at_builtin; refine wpList_append_own _ rfl _ _ 24 rfl s0 21 i0 (.int .i32 0) 1 4 Ybad.underlying24 hi hz0 hz1 hz2 rfl (by decide) _ _ _ rfl hown2 ⟨wr.heap.size, 0, none⟩ 1 1 [Value.int .i32 (x : Int)] rfl rfl (cell_one_new _ _ _) ?c2 ?c3 ?c4 ?c5 ?_)
      case c2 => intro u hu; simp at hu; subst hu; rfl
      case c3 => unfold maxLen; omega
      case c4 => omega
      case c5 => simp; omega
      intro v' w1 hown' hgrow hnn
      have hbe1 : Below s0 w w1 := (hbe.alloc (by omega) _).grown hgrow (by simp; omega) (fun k hk => (hown2.lt k hk).1)
      have HO := hid (own_more hl0 hown' hnn)
      clear hown' hgrow hown2 hown1
      go_wp2_with fail
      go_roundw
      case rel => exact ⟨i + 1, by go_num, by omega, by rw [HX2.out]; exact HO.out, hbe1⟩
      case measure => simp [intOf]; omega
    · have hlt' : ¬ (i : Int) < (zs.length : Int) := by omega
      obtain rfl : i = zs.length := by omega
      have hl0 : (pre16 zs).length = zs.length := by simp [pre16]
      rw [List.take_of_length_le (by omega)] at hown
      have hp128 := pre16_lt hz
      generalize pre16 zs = ys at *
      have HE := hid hEa
      clear hEa hc own0 b2 b1 z1 hmk cE hmod hp hi1
      go_wp2_with fail
      go_loopw [9, 54] (fun v vi wq => ∃ i : Nat, vi = .int .i64 (i : Int) ∧ i ≤ E.size ∧ Own wq s0 v (ys ++ (nums E).take i) ∧ Below s0 w wq) (fun _ vi _ => E.size - (intOf vi).toNat)
      case atStart => exact ⟨0, rfl, Nat.zero_le _, by simpa using hown, hbe⟩
      case round =>
        clear hown hbe
        obtain ⟨i, rfl, hi1, hown, hbe⟩ := hrel
        by_cases hlt : i < E.size
        · have hlt' : (i : Int) < (E.size : Int) := by omega
          have hnl : i < (nums E).length := by rw [nums_length]; exact hlt
          obtain ⟨x, hx, hx1, hx2⟩ : ∃ x : Nat, (E[i]).toNat = x ∧ x < 128 ∧ ys ++ (nums E).take (i + 1) = ys ++ (nums E).take i ++ [x] := by
            refine ⟨_, rfl, HE.out i hlt, ?_⟩
            rw [List.take_succ_eq_append_getElem hnl, nums_get E i hlt, List.append_assoc]
          have HX2 := hid hx2
          clear hx2
          obtain ⟨hown1, HOWN⟩ := hown
          have hl1 : (ys ++ (nums E).take i).length = zs.length + i := by rw [List.length_append, List.length_take]; omega
          generalize ys ++ (nums E).take i = Y at *
          rw [hl1] at hown1
          have hown2 := hown1.alloc (.cells #[.int .i32 (x : Int)] 21)
          have hws := hbe.size
          have hws0 : w.heap.size = s0 := HS0.out.symm
          go_wp2_with (at_builtin; refine wpList_append_own _ rfl _ _ 24 rfl s0 21 i0 (.int .i32 0) 1 4 Ybad.underlying24 hi hz0 hz1 hz2 rfl (by decide) _ _ _ rfl hown2 ⟨wr.heap.size, 0, none⟩ 1 1 [Value.int .i32 (x : Int)] rfl rfl (cell_one_new _ _ _) ?d2 ?d3 ?d4 ?d5 ?_)
          case d2 => intro u hu; simp at hu; subst hu; rfl
          case d3 => unfold maxLen; omega
          case d4 => omega
          case d5 => simp; omega
          intro v' w1 hown' hgrow hnn
          have hbe1 : Below s0 w w1 := (hbe.alloc (by omega) _).grown hgrow (by simp; omega) (fun k hk => (hown2.lt k hk).1)
          have HO := hid (own_more hl1 hown' hnn)
          clear hown' hgrow hown2 hown1
          go_wp2_with fail
          go_roundw
          case rel => exact ⟨i + 1, by go_num, by omega, by rw [HX2.out]; exact HO.out, hbe1⟩
          case measure => simp [intOf]; omega
        · have hlt' : ¬ (i : Int) < (E.size : Int) := by omega
          obtain rfl : i = E.size := by omega
          rw [List.take_of_length_le (by rw [nums_length]; exact Nat.le_refl _)] at hown
          have hl1 : (ys ++ nums E).length ≤ 1029 := by rw [List.length_append, nums_length]; omega
          have ha : ∀ x ∈ ys ++ nums E, x < 128 := by
            intro x hx
            rcases List.mem_append.1 hx with h | h
            · exact hp128 x h
            · obtain ⟨j, hj, rfl⟩ := List.getElem_of_mem h
              have hj' : j < E.size := by rw [nums_length] at hj; exact hj
              rw [nums_get E j hj']
              exact HE.out j hj'
          generalize ys ++ nums E = rs at *
          obtain ⟨g, rcap, rfl, hgB, hgW, hcap, hR⟩ := hown.is
          clear hown hp128 HE hlt' hlt hi1 hi hz0 hz1 hz2
          have hcl := clone_any wr g rcap rs hR hgW (by omega)
          obtain ⟨reg, HREG⟩ : ∃ reg, Hid (reg = r2 % (rs.length + 1)) := ⟨_, rfl⟩
          have hreg : (r2 : Int) % ((rs.length : Int) + 1) = (reg : Int) := by rw [HREG.out, Int.natCast_emod, Int.natCast_add]; rfl
          have hregl : reg ≤ rs.length := by
            rw [HREG.out]
            have := Nat.mod_lt r2 (show 0 < rs.length + 1 by omega)
            omega
          go_wp2_with fail
          refine hcl.mono ?_
          rintro e w1 ⟨v', rfl, hown2, hbe1⟩
          obtain ⟨g2, cap2, rfl, hgB2, hgW2, hcap2, hR2⟩ := hown2.is
          have hbx : Below s0 w w1 := hbe.trans (hbe1.mono (by have := hbe.size; rw [HS0.out]; exact this))
          have hR1 : Runes w1 g 0 rs := fun j hj => (hbe1.cell (p := ⟨g, 0 + j, none⟩) hgW).trans (hR j hj)
          clear hcl hown2
          generalize hwb : w1.heap.size = wb at *
          have hst := after_step4 w w1 s0 wb g g2 rcap reg rs tb tq tcap HS0.out hwb.symm hbx hR1 hR2 (by have := hbe1.size; omega) (by omega) hcap (by omega) hg HT.out
          go_wp2_with fail
          refine hst.mono ?_
          rintro e Z ⟨rfl, hZ⟩
          have HR2 := hid hZ.r2
          clear hst hR hR1 hR2 hbe hbx hbe1 HT hg
          go_upto_block 4 with fail
          go_cut [17] (fun vf wx => vf = .string (longest rs tab) ∧ wx = Z)
          case first =>
            clear hreg
            go_wp2_with fail
            go_loopw [17, 18] (fun vf vk wq => ∃ k : Nat, vf = .string none0 ∧ vk = .int .i64 (k : Int) ∧ 1 ≤ k ∧ k ≤ 5 ∧ (∀ j, k < j → j ≤ 5 → hit rs j = false) ∧ wq = Z) (fun _ vk _ => (intOf vk).toNat)
            case atStart => exact ⟨5, rfl, rfl, by omega, by omega, fun j h1 h2 => by omega, rfl⟩
            case round =>
              obtain ⟨k, rfl, rfl, hk1, hk5, hno, rfl⟩ := hrel
              by_cases h2 : 2 ≤ k
              · have h2' : (2 : Int) ≤ (k : Int) := by omega
                by_cases hkn : k ≤ rs.length
                · have hkn' : (k : Int) ≤ (rs.length : Int) := by omega
                  have hcv := tail_string HR2.out hkn (cap2 - (rs.length - k))
                  have hT := string_tail ha k
                  have hcn : ¬ cap2 = rs.length - k := by omega
                  have e1 : rs.length - (rs.length - k) = k := by omega
                  generalize runesBytes ((rs.drop (rs.length - k)).map fun n : Nat => (n : Int)) = T at *
                  have his := is4_any T wr
                  rw [hT] at his
                  have HTT := hid hT
                  clear hT
                  cases hh : sfxL.contains (tail rs k)
                  · rw [hh] at his
                    have hno2 : ∀ j, k - 1 < j → j ≤ 5 → hit rs j = false := fun j h1 h2 => by
                      by_cases e : j = k
                      · subst e; simp only [hit, hh, Bool.and_false]
                      · exact hno j (by omega) h2
                    have HN := hid hno2
                    clear hno hno2 hh
                    go_wp2_with fail
                    refine his.mono ?_
                    rintro e wq ⟨rfl, rfl⟩
                    go_wp2_with fail
                    go_roundw
                    case rel => exact ⟨k - 1, rfl, by go_num, by omega, by omega, HN.out, by first | rfl | trivial⟩
                    case measure => simp [intOf]; omega
                  · rw [hh] at his
                    have hf := found_hit ha (by omega) (show hit rs k = true by simp only [hit, hh, hkn, decide_true, Bool.and_self]) hno
                    have HF := hid (show T = longest rs tab from ByteArray.ext (Array.ext' (by rw [← ByteArray.toList_eq, ← ByteArray.toList_eq, HTT.out, hf.2])))
                    clear hno hh hf
                    go_wp2_with fail
                    refine his.mono ?_
                    rintro e wq ⟨rfl, rfl⟩
                    go_wp2_with fail
                    go_meet
                    case rel => exact ⟨by rw [HF.out], rfl⟩
                · have hkn' : ¬ (k : Int) ≤ (rs.length : Int) := by omega
                  have hno2 : ∀ j, k - 1 < j → j ≤ 5 → hit rs j = false := fun j h1 h2 => by
                    by_cases e : j = k
                    · subst e; simp [hit, hkn]
                    · exact hno j (by omega) h2
                  have HN := hid hno2
                  clear hno hno2
                  go_wp2_with fail
                  go_roundw
                  case rel => exact ⟨k - 1, rfl, by go_num, by omega, by omega, HN.out, by first | rfl | trivial⟩
                  case measure => simp [intOf]; omega
              · have h2' : ¬ (2 : Int) ≤ (k : Int) := by omega
                have hL := hid (found_none (rs := rs) (fun j h1 h3 => hno j (by omega) h3))
                clear hno
                go_wp2_with fail
                go_meet
                case rel => exact ⟨by rw [hL.out], rfl⟩
          case rest =>
            obtain ⟨rfl, rfl⟩ := hcut
            have hle : (longest rs tab).size ≤ rs.length := longest_le rs tab ⟨#[]⟩ (Nat.zero_le _)
            have k0 := hZ.c0
            have k1 := hZ.c1
            have k2 := hZ.c2
            have HA := hid hZ.r1
            have hbe := hZ.be
            clear hZ hreg
            generalize longest rs tab = L at *
            go_upto_region 30 with fail
            go_cut [105] (fun vb wx => vb = .bool (decide (L ≠ none0 ∧ reg ≤ rs.length - L.size)) ∧ wx = wc)
            case first =>
              clear k0 k1 k2
              by_cases h1 : L = none0
              · subst h1
                go_wp2_with fail
                go_meet
                case rel => exact ⟨by simp, rfl⟩
              · have hE : L.toList.isEmpty = false := by
                  rw [ByteArray.toList_eq]
                  cases hl : L.data.toList with
                  | nil => exact absurd (ByteArray.ext (Array.ext' hl)) h1
                  | cons _ _ => rfl
                have H1 := hid h1
                clear h1
                by_cases h2 : reg ≤ rs.length - L.size
                · have h2' : (reg : Int) ≤ (rs.length : Int) - (L.size : Int) := by omega
                  go_wp2_with fail
                  go_meet
                  case rel => exact ⟨by simp [H1.out, h2], rfl⟩
                · have h2' : ¬ (reg : Int) ≤ (rs.length : Int) - (L.size : Int) := by omega
                  go_wp2_with fail
                  go_meet
                  case rel => exact ⟨by simp [H1.out, h2], rfl⟩
            case rest =>
              obtain ⟨rfl, rfl⟩ := hcut
              go_upto_if 105 with fail
              go_cut [20] (fun vc wx => vc = .int .i64 ((cutOf rs reg L : Nat) : Int) ∧ wx = wc)
              case first =>
                clear k0 k1 k2
                by_cases hB : L ≠ none0 ∧ reg ≤ rs.length - L.size
                · rw [decide_eq_true hB]
                  by_cases h3 : L = ion
                  · subst h3
                    have hsz3 : ion.size = 3 := rfl
                    have hc3 : cutOf rs reg ion = if before rs 3 ≠ 115 ∧ before rs 3 ≠ 116 then 0 else 3 := by
                      have hnl : ¬ rs.length - 3 < reg := by have := hB.2; rw [hsz3] at this; omega
                      rw [cutOf, if_neg hB.1, hsz3, if_neg hnl]
                      simp
                    have HC3 := hid hc3
                    clear hc3
                    generalize cutOf rs reg ion = ct at *
                    by_cases h4 : rs.length < 4
                    · have h4' : (rs.length : Int) - 4 < 0 := by omega
                      have hb0 : before rs 3 = 0 := by rw [before, if_neg (by omega)]
                      have hct : ct = 0 := by rw [HC3.out, hb0]; rfl
                      subst hct
                      clear hB
                      go_wp2_with fail
                      go_meet
                      case rel => exact ⟨rfl, rfl⟩
                    · have h4' : ¬ (rs.length : Int) - 4 < 0 := by omega
                      have hcell := HR2.out (rs.length - 4) (by omega)
                      rw [Nat.zero_add] at hcell
                      have hx : ((rs.length : Int) - 4).toNat = rs.length - 4 := by omega
                      have hb0 : before rs 3 = rs[rs.length - 4] := by
                        rw [before, if_pos (by omega), show rs.length - 3 - 1 = rs.length - 4 by omega, List.getD_eq_getElem?_getD, List.getElem?_eq_getElem (show rs.length - 4 < rs.length by omega)]
                        rfl
                      generalize rs[rs.length - 4] = c at *
                      clear hB
                      by_cases h5 : c = 115
                      · have hct : ct = 3 := by rw [HC3.out, hb0, h5]; rfl
                        subst hct h5
                        go_wp2_with fail
                        go_meet
                        case rel => exact ⟨rfl, rfl⟩
                      · by_cases h6 : c = 116
                        · have hct : ct = 3 := by rw [HC3.out, hb0, h6]; rfl
                          subst hct h6
                          go_wp2_with fail
                          go_meet
                          case rel => exact ⟨rfl, rfl⟩
                        · have hct : ct = 0 := by rw [HC3.out, hb0, if_pos ⟨h5, h6⟩]
                          subst hct
                          have b5 : ((c : Int) != 115) = true := by simp; omega
                          have b6 : ((c : Int) != 116) = true := by simp; omega
                          clear h5 h6
                          go_wp2_with fail
                          go_meet
                          case rel => exact ⟨rfl, rfl⟩
                  · have b3 : (L.toList == [105, 111, 110]) = false := by
                      rw [ByteArray.toList_eq]
                      cases hx : (L.data.toList == [105, 111, 110])
                      · rfl
                      · exact absurd (ByteArray.ext (Array.ext' (by simpa using hx))) h3
                    have hct : cutOf rs reg L = L.size := by
                      rw [cutOf, if_neg hB.1, if_neg (Nat.not_lt.2 hB.2), if_neg (fun e => h3 e.1)]
                    have HCT := hid hct
                    clear hct h3 hB
                    go_wp2_with fail
                    go_meet
                    case rel => exact ⟨by rw [HCT.out], rfl⟩
                · rw [decide_eq_false hB]
                  have hct : cutOf rs reg L = 0 := by
                    unfold cutOf
                    split
                    · rfl
                    · rename_i h
                      rw [if_pos (Nat.lt_of_not_le fun h2 => hB ⟨h, h2⟩)]
                  have HCT := hid hct
                  clear hct hB
                  go_wp2_with fail
                  go_meet
                  case rel => exact ⟨by rw [HCT.out]; rfl, rfl⟩
              case rest =>
                obtain ⟨rfl, rfl⟩ := hcut
                have hcut0 : cutOf rs reg L ≤ rs.length := by
                  unfold cutOf
                  repeat' split
                  all_goals omega
                generalize cutOf rs reg L = ct at *
                have hxs : (rs.take (rs.length - ct)).length = rs.length - ct := by rw [List.length_take]; omega
                have hq1 : Runes wc g 0 (rs.take (rs.length - ct)) := HA.out.take _
                have hq2 : Runes wc g2 0 (rs.take (rs.length - ct)) := HR2.out.take _
                have heq : ∀ k, Calls Ybad.prog 7 #[.slice (some ⟨g, 0, none⟩) (rs.length - ct) rcap, .slice (some ⟨g2, 0, none⟩) (rs.length - ct) cap2] (wc.drewN k) fun e w' => e = .returned (.bool true) ∧ ∃ m, w' = (wc.drewN k).drewN m := fun k => by
                  have := equal_same (wc.drewN k) g g2 0 rcap cap2 (rs.take (rs.length - ct)) hq1 hq2 (by omega)
                  rw [hxs] at this
                  exact this
                have hx : ((rs.length : Int) - (ct : Int)).toNat = rs.length - ct := by omega
                clear hq1 hq2 hxs
                go_wp2_with fail
                go_quiet (first | (go_at_call 7; refine Calls.quiet_of (heq _)))
                go_wp2_with fail
                go_ret
                refine ⟨rfl, ?_⟩
                rw [← HS0.out]
                exact hbe.trans ⟨rfl, rfl, rfl, Nat.le_refl _, fun _ _ => rfl⟩

set_option maxRecDepth 100000 in
theorem walk_long (w : World) (ao : Option Addr) (n cap : Nat) (p r2 : Int) (hn : 1024 < n) :
    Calls Ybad.prog 3 #[.slice ao n cap, .int .u8 p, .int .u8 r2] w fun e w' => e = .returned (.bool true) ∧ Below w.heap.size w w' := by
  have hn' : (1024 : Int) < (n : Int) := by omega
  go_enter Ybad.func3, Ybad.ntmps3
  go_wp2_with fail
  go_ret
  exact ⟨rfl, Below.refl _ _⟩
end Go.Proofs.YbulkbsvmDoor
