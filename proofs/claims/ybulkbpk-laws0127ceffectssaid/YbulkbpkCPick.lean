import Derived.Test.YbulkbpkCSum
import Derived.Deep.RegionHeld3
import Derived.Deep.QuietTactic
import Derived.BigQuiet
namespace Go.Proofs.Ybulkbpk
open Go.RowKit Go.Maps

theorem below_al {w x : World} (h : Below w.heap.size w x) (o : Obj) : Below w.heap.size w (x.alloc o) := h.alloc h.size o
/-- An entry as it comes in. -/
structure Ent where
  dv : Int
  io : Int
  sz : Int
  mt : Int
  sm : Int
  gn : Bool
  us : Bool
  pl : Int
structure Ent.Ok (e : Ent) : Prop where
  dv : 0 ≤ e.dv ∧ e.dv ≤ 255
  io : 0 ≤ e.io ∧ e.io ≤ 255
  sz : 0 ≤ e.sz ∧ e.sz ≤ 255
  mt : 0 ≤ e.mt ∧ e.mt ≤ 255
  sm : 0 ≤ e.sm ∧ e.sm ≤ 255
  pl : -128 ≤ e.pl ∧ e.pl ≤ 127
structure EntAt (w : World) (b o : Nat) (e : Ent) : Prop where
  c0 : w.cell? ⟨b, o, none⟩ = some (.int .u8 e.dv)
  c1 : w.cell? ⟨b, o + 1, none⟩ = some (.int .u8 e.io)
  c2 : w.cell? ⟨b, o + 2, none⟩ = some (.int .u8 e.sz)
  c3 : w.cell? ⟨b, o + 3, none⟩ = some (.int .u8 e.mt)
  c4 : w.cell? ⟨b, o + 4, none⟩ = some (.int .u8 e.sm)
  c5 : w.cell? ⟨b, o + 5, none⟩ = some (.bool e.gn)
  c6 : w.cell? ⟨b, o + 6, none⟩ = some (.bool e.us)
  c7 : w.cell? ⟨b, o + 7, none⟩ = some (.int .i8 e.pl)
/-- The slice of entries that came in. -/
def SrcE (w : World) (a : Option Addr) (n : Nat) (E : Nat → Ent) : Prop := ∀ i, i < n → ∃ b o, a = some ⟨b, o, none⟩ ∧ EntAt w b (o + i * 8) (E i) ∧ b < w.heap.size
theorem EntAt.later {w w' : World} {b o : Nat} {e : Ent} (h : EntAt w b o e) (hb : Below w.heap.size w w') : EntAt w' b o e :=
  ⟨cell_later hb h.c0, cell_later hb h.c1, cell_later hb h.c2, cell_later hb h.c3, cell_later hb h.c4, cell_later hb h.c5, cell_later hb h.c6, cell_later hb h.c7⟩
theorem SrcE.later {w w' : World} {a : Option Addr} {n : Nat} {E : Nat → Ent} (h : SrcE w a n E) (hb : Below w.heap.size w w') : SrcE w' a n E := by
  intro i hi
  obtain ⟨b, o, rfl, hc, hl⟩ := h i hi
  exact ⟨b, o, rfl, hc.later hb, by have := hb.size; omega⟩

/-- The entry that the lookup must pick among the first k. -/
def pk (E : Nat → Ent) (d i : Int) : Nat → Int
  | 0 => -1
  | k + 1 => if (E k).gn = false ∧ (E k).dv % 2 = d ∧ (E k).io % 3 = i then k else pk E d i k

set_option maxHeartbeats 1000000 in
theorem pick_any (a : Option Addr) (n c : Nat) (E : Nat → Ent) (d i' s m : Int) (w : World) (hn : n ≤ 1024) (hS : SrcE w a n E) (hE : ∀ i, (E i).Ok) :
    Calls Yba.prog 11 #[.slice a n c, .agg #[.int .u64 d, .int .u64 i', .int .i64 s, .int .i64 m, .int .i64 0]] w fun e w' => e = .returned (.int .i64 (pk E d i' n)) ∧ Below w.heap.size w w' := by
  have HS := hide hS
  have HE := hide hE
  clear hS hE
  go_enter Yba.func11, Yba.ntmps11
  go_wp2_with fail
  go_loopw [5, 10] (fun j i wr => ∃ k : Nat, k ≤ n ∧ i = .int .i64 k ∧ j = .int .i64 (pk E d i' k) ∧ Hid (Below w.heap.size w wr) ∧ w.heap.size < wr.heap.size ∧ wr.cell? ⟨w.heap.size, 0, none⟩ = some (.int .u64 d) ∧ wr.cell? ⟨w.heap.size, 1, none⟩ = some (.int .u64 i')) (fun _ i _ => n - (intOf i).toNat)
  case atStart => exact ⟨0, Nat.zero_le _, rfl, rfl, (Below.refl _ _).alloc (Nat.le_refl _) _, by simp, by go_simp, by go_simp⟩
  case round =>
    obtain ⟨k, hk, rfl, rfl, HB, hsz, b0, b1⟩ := hrel
    by_cases hlt : k < n
    · obtain ⟨b, o, rfl, he, hbl⟩ := (HS.out.later HB.out) k hlt
      obtain ⟨c0, c1, c2, c3, c4, c5, c6, c7⟩ := he
      have hl0 : (0 : Int) ≤ (k : Int) := by omega
      have hl1 : (k : Int) < (n : Int) := by omega
      go_wp2_with fail
      obtain ⟨q0, q1, q2, q3, q4, q5⟩ := HE.out k
      have HQ := hide q0
      have HQ1 := hide q1
      have HQ2 := hide q2
      have HQ3 := hide q3
      clear q0 q1 q2 q3 q4 q5
      go_region_held3 (fun w' => w'.cell? ⟨b, o + k * 8, none⟩ = some (.int .u8 (E k).dv) ∧ w'.cell? ⟨b, o + k * 8 + 1, none⟩ = some (.int .u8 (E k).io) ∧ w'.cell? ⟨b, o + k * 8 + 2, none⟩ = some (.int .u8 (E k).sz) ∧ w'.cell? ⟨b, o + k * 8 + 3, none⟩ = some (.int .u8 (E k).mt)) (simp [go_sem, World.cell?_alloc_past, *])
        (first | (go_at_call 10; refine (stat_any _ _ _ _ _ HQ.out HQ1.out HQ2.out HQ3.out).mono ?_; rintro e w' ⟨rfl, o1, rfl⟩))
      all_goals
        by_cases hg : (E k).gn = true
        · have HP : Hid (pk E d i' (k + 1) = pk E d i' k) := if_neg (fun h => by rw [hg] at h; exact absurd h.1 (by simp))
          go_wp2_with fail
          go_roundw
          case rel => exact ⟨k + 1, by omega, by go_num, by rw [HP.out], by (repeat (first | exact HB.out | refine Below.drew ?_ | refine below_al ?_ _)), by simp; omega, by go_simp, by go_simp⟩
          case measure => simp [intOf]; omega
        have hg' : (E k).gn = false := by simpa using hg
        clear hg
        by_cases h1 : (E k).dv % 2 = d
        · have h1' : ((E k).dv % 2 == d) = true := by simpa using h1
          by_cases h2 : (E k).io % 3 = i'
          · have h2' : ((E k).io % 3 == i') = true := by simpa using h2
            have HP : Hid (pk E d i' (k + 1) = (k : Int)) := if_pos ⟨hg', h1, h2⟩
            clear h1 h2
            go_wp2_with fail
            go_roundw
            case rel => exact ⟨k + 1, by omega, by go_num, by rw [HP.out], by (repeat (first | exact HB.out | refine Below.drew ?_ | refine below_al ?_ _)), by simp; omega, by go_simp, by go_simp⟩
            case measure => simp [intOf]; omega
          · have h2' : ((E k).io % 3 == i') = false := by simpa using h2
            have HP : Hid (pk E d i' (k + 1) = pk E d i' k) := if_neg (fun h => h2 h.2.2)
            clear h1 h2
            go_wp2_with fail
            go_roundw
            case rel => exact ⟨k + 1, by omega, by go_num, by rw [HP.out], by (repeat (first | exact HB.out | refine Below.drew ?_ | refine below_al ?_ _)), by simp; omega, by go_simp, by go_simp⟩
            case measure => simp [intOf]; omega
        · have h1' : ((E k).dv % 2 == d) = false := by simpa using h1
          have HP : Hid (pk E d i' (k + 1) = pk E d i' k) := if_neg (fun h => h1 h.2.1)
          clear h1
          go_wp2_with fail
          go_roundw
          case rel => exact ⟨k + 1, by omega, by go_num, by rw [HP.out], by (repeat (first | exact HB.out | refine Below.drew ?_ | refine below_al ?_ _)), by simp; omega, by go_simp, by go_simp⟩
          case measure => simp [intOf]; omega
    · obtain rfl : k = n := by omega
      go_wp2_with fail
      go_ret
      exact ⟨rfl, HB.out⟩
end Go.Proofs.Ybulkbpk
