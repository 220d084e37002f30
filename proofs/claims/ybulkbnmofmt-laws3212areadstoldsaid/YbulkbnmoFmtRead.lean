/-
  The law's reader: '(*zzs3212areader).Read' (33).
-/
import Derived.Test.YbulkbnmoFmtHeap
import Derived.Laws.CopyOwn
import Derived.Deep.RegionLaw
import Derived.BigRegion
import Derived.Deep.DrawnRows
import Derived.Deep.QuietTactic
import Derived.BigQuiet
namespace Go.Proofs.YbulkbnmoFmt
open Go.RowKit
set_option linter.unusedVariables false
attribute [local go_sem] Go.wp_at_zero Go.wp_at_succ

def byteV (x : UInt8) : Value := .int .u8 (x.toNat : Int)
def bytesV (L : List UInt8) : List Value := L.map byteV
theorem bytesV_len (L : List UInt8) : (bytesV L).length = L.length := by simp [bytesV]
theorem bytesV_get (L : List UInt8) (j : Nat) (h : j < L.length) : (bytesV L)[j]? = some (byteV L[j]) := by simp [bytesV, h]

/-- The reader in memory: its data ds lie at the head of block gd; 'at' bytes have been handed out. -/
structure RdAt (w : World) (br gd dc ch : Nat) (ds : List UInt8) (fv : Value) (t : Nat) : Prop where
  data : w.cell? ⟨br, 0, none⟩ = some (.slice (some ⟨gd, 0, none⟩) ds.length dc)
  at_ : w.cell? ⟨br, 1, none⟩ = some (.int .i64 (t : Int))
  chunk : w.cell? ⟨br, 2, none⟩ = some (.int .i64 (ch : Int))
  fail : w.cell? ⟨br, 3, none⟩ = some fv
  free : w.frozen? ⟨br, 1, none⟩ = false
  bytes : ∀ j, (h : j < ds.length) → w.cell? ⟨gd, j, none⟩ = some (byteV ds[j])
  room : ds.length ≤ dc
  small : dc ≤ 4096 ∧ 1 ≤ ch ∧ ch ≤ 8 ∧ t ≤ ds.length

theorem RdAt.drew {w : World} {br gd dc ch : Nat} {ds : List UInt8} {fv : Value} {t : Nat} (h : RdAt w br gd dc ch ds fv t) : RdAt w.drew br gd dc ch ds fv t :=
  ⟨h.data, h.at_, h.chunk, h.fail, h.free, h.bytes, h.room, h.small⟩
theorem RdAt.drewN {w : World} {br gd dc ch : Nat} {ds : List UInt8} {fv : Value} {t : Nat} (h : RdAt w br gd dc ch ds fv t) (n : Nat) : RdAt (w.drewN n) br gd dc ch ds fv t :=
  ⟨h.data, h.at_, h.chunk, h.fail, h.free, h.bytes, h.room, h.small⟩
theorem RdAt.touch {w w' : World} {br gd dc ch : Nat} {ds : List UInt8} {fv : Value} {t : Nat} (h : RdAt w br gd dc ch ds fv t) {S : Nat → Prop} (ht : Touch S w w') (h1 : ¬ S br) (h2 : ¬ S gd) : RdAt w' br gd dc ch ds fv t :=
  ⟨ht.cell h.data h1, ht.cell h.at_ h1, ht.cell h.chunk h1, ht.cell h.fail h1, (World.frozen?_of_block (ht.block br (World.block_lt_of_cell? w _ h.data) h1)).trans h.free, fun j hj => ht.cell (h.bytes j hj) h2, h.room, h.small⟩

set_option maxHeartbeats 1000000 in
theorem read_end (br gd dc ch : Nat) (ds : List UInt8) (ft : TypeId) (fp : Value) (t : Nat) (p : Value) (w : World) (h : RdAt w br gd dc ch ds (.iface ft fp) t) (ht : ds.length ≤ t) :
    Calls Ybaf.prog 33 #[.pointer (some ⟨br, 0, none⟩), p] w fun e w' => e = .returned (.tuple #[.int .i64 0, .iface ft fp]) ∧ Touch (fun _ => False) w w' := by
  obtain ⟨h0, h1, h2, h3, h4, _, h5, h6⟩ := h
  go_enter Ybaf.func33, Ybaf.ntmps33
  go_wp2
  go_quiet (fail)
  go_wp2
  go_quiet (fail)
  go_wp2
  go_ret2
  exact ⟨rfl, ((Touch.refl _ w).drewN _).drewN _⟩

/-- What Read leaves where it hands out n bytes into block g from off on. -/
structure ReadPost (w w' : World) (br gd dc ch : Nat) (ds : List UInt8) (fv : Value) (t n g off : Nat) (cur : List Value) : Prop where
  rd : RdAt w' br gd dc ch ds fv (t + n)
  row : w'.heap[g]? = some (.cells (splice cur off (bytesV ((ds.drop t).take n))).toArray 5 (0, 0))
  touch : Touch (fun k => k = br ∨ g ≤ k) w w'

theorem below_touch {g : Nat} {w w' : World} (h : Below g w w') (hsz : g < w.heap.size) : Touch (fun k => g ≤ k) w w' :=
  ⟨h.os, h.tape, h.output, h.size, fun k hk hn => h.block k (by omega)⟩

theorem read_post {w w4 : World} {br gd dc ch : Nat} {ds : List UInt8} {fv : Value} {t n g off : Nat} {cur cs : List Value} (hR : RdAt w br gd dc ch ds fv t) (hn : t + n ≤ ds.length) (hcs : cs = bytesV ((ds.drop t).take n))
    (hg : w.heap[g]? = some (.cells cur.toArray 5 (0, 0))) (hlt : br < g) (hgd : gd < g) (hne : br ≠ gd) (hg4 : w4.heap[g]? = some (.cells (splice cur off cs).toArray 5 (0, 0))) (hb4 : Below g w w4) :
    ReadPost w (w4.setCell ⟨br, 1, none⟩ (.int .i64 ((t : Int) + (n : Int)))) br gd dc ch ds fv t n g off cur := by
  have hc : ∀ b o v, b < g → w.cell? ⟨b, o, none⟩ = some v → w4.cell? ⟨b, o, none⟩ = some v := fun b o v hb h => (hb4.cell (p := ⟨b, o, none⟩) hb).trans h
  refine ⟨⟨(set_off (by omega)).trans (hc _ _ _ hlt hR.data), ?_, (set_off (by omega)).trans (hc _ _ _ hlt hR.chunk), (set_off (by omega)).trans (hc _ _ _ hlt hR.fail), ?_, fun j hj => (set_far hne).trans (hc _ _ _ hgd (hR.bytes j hj)), hR.room, ?_⟩, ?_, ?_⟩
  · rw [show ((t + n : Nat) : Int) = (t : Int) + (n : Int) by omega]
    exact set_same (hc _ _ _ hlt hR.at_)
  · rw [World.frozen?_setCell]
    exact (hb4.frozen (p := ⟨br, 1, none⟩) hlt).trans hR.free
  · have := hR.small; omega
  · rw [Below.heap_setCell _ _ _ _ (by simp; omega), hg4, hcs]
  · exact ((below_touch hb4 (lt_of_heap hg)).mono (fun k _ h => .inr h)).setCell (fun _ => .inl rfl) _

set_option maxRecDepth 100000 in
set_option maxHeartbeats 1000000 in
theorem read_some (br gd dc ch : Nat) (ds : List UInt8) (fv : Value) (t n g off pl : Nat) (cur : List Value) (w : World) (h : RdAt w br gd dc ch ds fv t) (ht : t < ds.length) (hn : n = min ch (ds.length - t)) (hg : w.heap[g]? = some (.cells cur.toArray 5 (0, 0))) (hpl : 8 ≤ pl) (hoff : off + pl ≤ cur.length) (hlt : br < g) (hgd : gd < g) (hne : br ≠ gd) (hmax : cur.length ≤ 100000) :
    Calls Ybaf.prog 33 #[.pointer (some ⟨br, 0, none⟩), .slice (some ⟨g, off, none⟩) pl pl] w fun e w' => e = .returned (.tuple #[.int .i64 (n : Int), .nilIface]) ∧ ReadPost w w' br gd dc ch ds fv t n g off cur := by
  have HR : Hid (RdAt w br gd dc ch ds fv t) := h
  obtain ⟨h0, h1, h2, h3, h4, hbt, h5, h6⟩ := h
  obtain ⟨en, hen⟩ : ∃ en, en = t + n := ⟨_, rfl⟩
  have q0 : (0 : Int) ≤ (en : Int) := by omega
  have q1 : (en : Int) ≤ (dc : Int) := by omega
  have q2 : (t : Int) ≤ (en : Int) := by omega
  have q3 : t ≤ en := by omega
  have q4 : ¬ dc = t := by omega
  have q5 : 1 ≤ n := by omega
  have q6 : n ≤ 8 := by omega
  have HN : Hid (en = t + n ∧ t + n ≤ ds.length) := ⟨hen, by omega⟩
  obtain ⟨cs, hcs⟩ : ∃ cs, cs = bytesV ((ds.drop t).take n) := ⟨_, rfl⟩
  have hl : cs.length = n := by rw [hcs, bytesV_len, List.length_take, List.length_drop]; omega
  have HC : Hid (cs = bytesV ((ds.drop t).take n)) := hcs
  have HG : Hid (w.heap[g]? = some (.cells cur.toArray 5 (0, 0))) := hg
  have H1 : Hid (∀ v ∈ cs, v.oneCell' = true) := by
    intro v hv
    rw [hcs] at hv
    obtain ⟨x, _, rfl⟩ := List.mem_map.1 hv
    rfl
  have H2 : Hid (∀ j v, cs[j]? = some v → w.cell? ((⟨gd, t, none⟩ : Addr).add j) = some v) := by
    intro j v hv
    have hj : j < n := by rw [← hl]; exact (List.getElem?_eq_some_iff.1 hv).1
    rw [Addr.add_lit, hbt (t + j) (by omega)]
    rw [hcs] at hv
    unfold bytesV at hv
    rw [List.getElem?_map, List.getElem?_take, if_pos hj, List.getElem?_drop, List.getElem?_eq_getElem (by omega)] at hv
    simpa using hv
  have H3 : Hid (cs.length = Nat.min (en - t) pl) := by
    rw [hl]; show n = min (en - t) pl; omega
  have H4 : Hid (off + cs.length ≤ cur.length) := by show off + cs.length ≤ cur.length; omega
  have hpos : (0 : Int) < (n : Int) := by omega
  have hz : ((n : Int) == 0) = false := beq_eq_false_iff_ne.2 (by omega)
  clear hcs hbt hg
  by_cases hc : t + ch ≤ ds.length
  · have hx : (t : Int) + (ch : Int) = (en : Int) := by omega
    clear hen hn
    go_enter Ybaf.func33, Ybaf.ntmps33
    go_wp2
    go_quiet (fail)
    go_wp2
    go_quiet (fail)
    go_wp2
    go_region_law (refine step_copy_splice rfl (.tmp 43) (.tmp 53) 22 22 rfl 5 Ybaf.underlying22 size5 (some ⟨g, off, none⟩) (some ⟨gd, t, none⟩) pl pl (en - t) (dc - t) (by rfl) (by rfl) g off cur 5 (by exact HG.out) cs H3.out (fun _ => ⟨rfl, _, rfl, by exact H2.out⟩) H4.out H1.out g w (by exact ⟨rfl, rfl, rfl, Nat.le_refl _, fun _ _ => rfl⟩) (Nat.le_refl _) ?_; intro w4 hg4 hb4)
    all_goals
      have d1 := (hb4.cell (p := ⟨br, 1, none⟩) hlt).trans h1
      have d2 := (hb4.frozen (p := ⟨br, 1, none⟩) hlt).trans h4
      have HP : Hid (ReadPost w (w4.setCell ⟨br, 1, none⟩ (.int .i64 ((t : Int) + (n : Int)))) br gd dc ch ds fv t n g off cur) := read_post HR.out HN.out.2 HC.out HG.out hlt hgd hne hg4.out hb4
      clear hb4 hg4
      go_wp2
      go_ret2
      exact ⟨rfl, HP.out⟩
  · have H3 : Hid (cs.length = Nat.min (ds.length - t) pl) := by
      rw [hl]; show n = min (ds.length - t) pl; omega
    have q1' : (ds.length : Int) ≤ (dc : Int) := by omega
    have q2' : (t : Int) ≤ (ds.length : Int) := by omega
    have q3' : t ≤ ds.length := by omega
    clear hen hn
    go_enter Ybaf.func33, Ybaf.ntmps33
    go_wp2
    go_quiet (fail)
    go_wp2
    go_quiet (fail)
    go_wp2
    go_region_law (refine step_copy_splice rfl (.tmp 43) (.tmp 53) 22 22 rfl 5 Ybaf.underlying22 size5 (some ⟨g, off, none⟩) (some ⟨gd, t, none⟩) pl pl (ds.length - t) (dc - t) (by rfl) (by rfl) g off cur 5 (by exact HG.out) cs H3.out (fun _ => ⟨rfl, _, rfl, by exact H2.out⟩) H4.out H1.out g w (by exact ⟨rfl, rfl, rfl, Nat.le_refl _, fun _ _ => rfl⟩) (Nat.le_refl _) ?_; intro w4 hg4 hb4)
    all_goals
      have d1 := (hb4.cell (p := ⟨br, 1, none⟩) hlt).trans h1
      have d2 := (hb4.frozen (p := ⟨br, 1, none⟩) hlt).trans h4
      have HP : Hid (ReadPost w (w4.setCell ⟨br, 1, none⟩ (.int .i64 ((t : Int) + (n : Int)))) br gd dc ch ds fv t n g off cur) := read_post HR.out HN.out.2 HC.out HG.out hlt hgd hne hg4.out hb4
      clear hb4 hg4
      go_wp2
      go_ret2
      exact ⟨rfl, HP.out⟩
end Go.Proofs.YbulkbnmoFmt
