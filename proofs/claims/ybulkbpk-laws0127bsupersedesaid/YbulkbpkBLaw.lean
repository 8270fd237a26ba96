import Derived.Test.YbulkbpkBSup
namespace Go.Proofs.Ybulkbpk
open Go.RowKit Go.Maps PB

/-- What stands when the map is built. -/
structure Built (w wr : World) (B M k : Nat) (ks : Nat → ByteArray) (v : Nat → Int) (lv dd : Int) : Prop where
  log : IsLog wr B lv dd
  map : MapS wr M k (last ks v k) (dist ks v k)
  bel : Below w.heap.size w wr
  ge : w.heap.size ≤ M
  geB : w.heap.size ≤ B
  ne : B ≠ M

theorem Built.step {w wr : World} {B M k : Nat} {ks : Nat → ByteArray} {v : Nat → Int} {lv dd : Int} (h : Built w wr B M k ks v lv dd) (hk : k < 1024) (hs : (ks k).size ≤ maxLen) (hv : (Lit.int .i64 (v k)).wf = true) :
    ∃ w', (Instr.mapUpdate 32 (.map (some M)) (.string (ks k)) (.int .i64 (v k))).run Yba.prog wr = .ok () w' ∧ Built w w' B M (k + 1) ks v lv dd := by
  obtain ⟨w', hrun, hM, hW⟩ := h.map.store (g := last ks v (k + 1)) law9 Yba.underlying32 Yba.underlying3 (by unfold maxLen; omega) litS_inj (keyS hs) hv (last_at ks v k) (fun b hb => last_other ks v k b hb)
  exact ⟨w', hrun, h.log.other hW h.ne, hM, h.bel.trans (hW.below _ h.ge), h.ge, h.geB, h.ne⟩

theorem live_eq (a b c : Int) : wrap64 (a + wrap64 (b - c)) = wrap64 (wrap64 (a + b) - c) := by unfold wrap64; omega
theorem sup_self (f : ByteArray → Option Int) (key : ByteArray) (sz : Int) : sup f key sz key = if 0 < sz then some sz else none := by unfold sup; rw [if_pos rfl]
theorem built_start (w w1 : World) (B : Nat) (ks : Nat → ByteArray) (v : Nat → Int) (lv dd : Int) (hL : IsLog w1 B 0 0) (hb : Below w.heap.size w w1) (hB : w.heap.size ≤ B) :
    Built w (((w1.setCell ⟨B, 12, none⟩ (.int .i64 lv)).setCell ⟨B, 13, none⟩ (.int .i64 dd)).alloc (.map #[] 0)) B w1.heap.size 0 ks v lv dd := by
  have h2 := hL.set lv dd
  have hsz : ((w1.setCell ⟨B, 12, none⟩ (.int .i64 lv)).setCell ⟨B, 13, none⟩ (.int .i64 dd)).heap.size = w1.heap.size := by simp
  have hlt := hL.lt
  have hbs := hb.size
  have hb2 : Below w.heap.size w ((w1.setCell ⟨B, 12, none⟩ (.int .i64 lv)).setCell ⟨B, 13, none⟩ (.int .i64 dd)) := (hb.setCell hB _).setCell hB _
  generalize ((w1.setCell ⟨B, 12, none⟩ (.int .i64 lv)).setCell ⟨B, 13, none⟩ (.int .i64 dd)) = w2 at *
  refine ⟨h2.below ((Below.refl w2.heap.size w2).alloc (Nat.le_refl _) _) h2.lt, ?_, hb2.alloc (by omega) _, hbs, hB, by omega⟩
  rw [← hsz]
  exact MapIs.made _ _ (fun _ => rfl)

set_option maxRecDepth 100000 in
set_option maxHeartbeats 2000000 in
theorem law_a (a0 a1 : Option Addr) (n c0 lv c1 : Nat) (ks : Nat → ByteArray) (vs : Nat → Int) (sel : Nat) (key : ByteArray) (sz live dead : Int) (w : World) (hlv : lv ≤ maxLen) (h0 : SrcS w a0 n ks) (h1 : SrcI w a1 lv vs)
    (hks : ∀ i, (ks i).size ≤ maxLen) (hvs : ∀ i, (Lit.int .i64 (vl lv vs i)).wf = true) (hkey : key.size ≤ maxLen) (_ : sel ≤ 255) (hsz : (Lit.int .i64 sz).wf = true)
    (hn : n ≤ 1024) (hn0 : ¬ 0 < n) :
    Calls Yba.prog 3 #[.slice a0 n c0, .slice a1 lv c1, .int .u8 sel, .string key, .int .i64 sz, .int .i64 live, .int .i64 dead] w fun e w' => e = .returned (.bool true) ∧ Below w.heap.size w w' := by
  have hmm := @run_makeMap Yba.prog
  unfold maxLen at hlv
  have H0 := hide h0
  have H1 := hide h1
  have HK := hide hks
  have HV := hide hvs
  have HKey := hide hkey
  have HSZ := hide hsz
  clear h0 h1 hks hvs hkey hsz
  go_enter Yba.func3, Yba.ntmps3
  go_wp2_with fail
  refine (newLog_any _ _).mono ?_
  rintro e w1 ⟨B, rfl, hL, hBge, hb1⟩
  have HL := hide hL
  have HB1 := hide hb1
  obtain ⟨c12, c13, f12, f13, hBlt⟩ := hL
  have hsz1 := hb1.size
  clear hb1
  go_wp2_with fail
  have HS := hide (built_start w w1 B ks (vl lv vs) live dead HL.out HB1.out hBge)
  clear HL HB1 c12 c13 f12 f13 hmm
  go_loopw [65] (fun i wr => ∃ k : Nat, k ≤ n ∧ i = .int .i64 k ∧ Hid (Built w wr B w1.heap.size k ks (vl lv vs) live dead)) (fun i _ => n - (intOf i).toNat)
  case atStart => exact ⟨0, Nat.zero_le _, rfl, HS⟩
  case round =>
    obtain ⟨k, hk, rfl, HI⟩ := hrel
    by_cases hlt : k < n
    · exfalso; omega
    · obtain rfl : k = n := by omega
      clear hlt
      go_wp2_with fail
      refine (blast_any _ a1 k c0 lv c1 ks vs key _ hn (by unfold maxLen; omega) (H0.out.later HI.out.bel) (H1.out.later HI.out.bel)).mono ?_
      rintro e w' ⟨rfl, rfl⟩
      go_wp2_with fail
      refine (sup_any B w1.heap.size k (dist ks (vl lv vs) k) (last ks (vl lv vs) k) key sz live dead _ (by unfold maxLen; omega) HKey.out HSZ.out HI.out.ne HI.out.log HI.out.map).mono ?_
      rintro e w5 ⟨rfl, hL5, hM5, hz5, hb5⟩
      have HM5 := hide hM5
      have HB5 := hide (HI.out.bel.trans (hb5 w.heap.size HI.out.geB HI.out.ge))
      obtain ⟨c12, c13, _, _, hBlt5⟩ := hL5
      have HSum := hide (sup_self (last ks (vl lv vs) k) key sz)
      have hlk := hM5.look_ok law9 Yba.underlying32 Yba.underlying3 (zero3 w5) (keyS HKey.out)
      rw [HSum.out] at hlk
      clear hM5 hb5
      generalize (last ks (vl lv vs) k key).getD 0 = old at *
      rw [live_eq] at c12
      by_cases hp : 0 < sz
      · rw [if_pos hp] at hlk
        go_wp2_with fail
        clear hlk c12 c13
        go_loopw [24, 134] (fun c i wr => ∃ q : Nat, q ≤ k ∧ i = .int .i64 q ∧ c = .int .i64 (cnt ks (vl lv vs) key q) ∧ Hid (wr = w5)) (fun _ i _ => k - (intOf i).toNat)
        case atStart => exact ⟨0, Nat.zero_le _, rfl, rfl, rfl⟩
        case round =>
          clear HI HS
          obtain ⟨q, hq, rfl, rfl, HW⟩ := hrel
          obtain rfl := HW.out
          obtain ⟨wo, rfl⟩ : ∃ wo : World, wo = wr := ⟨_, rfl⟩
          have hcq := cnt_le ks (vl lv vs) key q
          by_cases hqk : q < k
          · exfalso; omega
          · obtain rfl : q = k := by omega
            clear hqk
            have hlen : ∀ ty, (Builtin.len_ #[32] ty #[.map (some w1.heap.size)]).run Yba.prog wo = .ok (.int .i64 ((cnt ks (vl lv vs) key q : Int) + 1)) wo := fun ty => by
              rw [HM5.out.len Yba.underlying32 ty, count_right, if_pos hp]; rfl
            go_wp2_with fail
            go_ret
            exact ⟨by simp, HB5.out⟩
      · rw [if_neg hp] at hlk
        go_wp2_with fail
        clear hlk c12 c13
        go_loopw [24, 134] (fun c i wr => ∃ q : Nat, q ≤ k ∧ i = .int .i64 q ∧ c = .int .i64 (cnt ks (vl lv vs) key q) ∧ Hid (wr = w5)) (fun _ i _ => k - (intOf i).toNat)
        case atStart => exact ⟨0, Nat.zero_le _, rfl, rfl, rfl⟩
        case round =>
          clear HI HS
          obtain ⟨q, hq, rfl, rfl, HW⟩ := hrel
          obtain rfl := HW.out
          obtain ⟨wo, rfl⟩ : ∃ wo : World, wo = wr := ⟨_, rfl⟩
          have hcq := cnt_le ks (vl lv vs) key q
          by_cases hqk : q < k
          · exfalso; omega
          · obtain rfl : q = k := by omega
            clear hqk
            have hlen : ∀ ty, (Builtin.len_ #[32] ty #[.map (some w1.heap.size)]).run Yba.prog wo = .ok (.int .i64 (cnt ks (vl lv vs) key q : Int)) wo := fun ty => by
              rw [HM5.out.len Yba.underlying32 ty, count_right, if_neg (by omega)]; rfl
            go_wp2_with fail
            go_ret
            exact ⟨by simp, HB5.out⟩

set_option maxRecDepth 100000 in
set_option maxHeartbeats 2000000 in
theorem law_b (a0 a1 : Option Addr) (n c0 lv c1 : Nat) (ks : Nat → ByteArray) (vs : Nat → Int) (sel : Nat) (key : ByteArray) (sz live dead : Int) (w : World) (hlv : lv ≤ maxLen) (h0 : SrcS w a0 n ks) (h1 : SrcI w a1 lv vs)
    (hks : ∀ i, (ks i).size ≤ maxLen) (hvs : ∀ i, (Lit.int .i64 (vl lv vs i)).wf = true) (hkey : key.size ≤ maxLen) (hse1 : sel ≤ 255) (hsz : (Lit.int .i64 sz).wf = true)
    (hn : n ≤ 1024) (hn0 : 0 < n) (hev : ((sel : Int) % 2 == 0) = true) :
    Calls Yba.prog 3 #[.slice a0 n c0, .slice a1 lv c1, .int .u8 sel, .string key, .int .i64 sz, .int .i64 live, .int .i64 dead] w fun e w' => e = .returned (.bool true) ∧ Below w.heap.size w w' := by
  have hmm := @run_makeMap Yba.prog
  unfold maxLen at hlv
  have H0 := hide h0
  have H1 := hide h1
  have HK := hide hks
  have HV := hide hvs
  have HKey := hide hkey
  have HSZ := hide hsz
  clear h0 h1 hks hvs hkey hsz
  have hidx := Nat.mod_lt (sel / 2) hn0
  have hi0 : (0 : Int) ≤ (sel : Int) / 2 % (n : Int) := Int.emod_nonneg _ (by omega)
  have hi1 : (sel : Int) / 2 % (n : Int) < (n : Int) := Int.emod_lt_of_pos _ (by omega)
  obtain ⟨x, hx0, hx, hxb⟩ := H0.out (sel / 2 % n) hidx
  obtain rfl := hx0
  obtain ⟨kk, hkk⟩ : ∃ kk, kk = ks (sel / 2 % n) := ⟨_, rfl⟩
  rw [← hkk] at hx
  have HKey := hide (show kk.size ≤ maxLen by rw [hkk]; exact HK.out _)
  clear hkk
  go_enter Yba.func3, Yba.ntmps3
  go_wp2_with fail
  refine (newLog_any _ _).mono ?_
  rintro e w1 ⟨B, rfl, hL, hBge, hb1⟩
  have HL := hide hL
  have HB1 := hide hb1
  obtain ⟨c12, c13, f12, f13, hBlt⟩ := hL
  have hsz1 := hb1.size
  clear hb1
  go_wp2_with fail
  have HS := hide (built_start w w1 B ks (vl lv vs) live dead HL.out HB1.out hBge)
  clear HL HB1 c12 c13 f12 f13 hmm
  go_loopw [65] (fun i wr => ∃ k : Nat, k ≤ n ∧ i = .int .i64 k ∧ Hid (Built w wr B w1.heap.size k ks (vl lv vs) live dead)) (fun i _ => n - (intOf i).toNat)
  case atStart => exact ⟨0, Nat.zero_le _, rfl, HS⟩
  case round =>
    obtain ⟨k, hk, rfl, HI⟩ := hrel
    by_cases hlt : k < n
    · obtain ⟨x0, hx0, hx, hxb⟩ := (H0.out.later HI.out.bel) k hlt
      injection hx0 with hx0
      rw [← hx0] at hx hxb
      clear hx0 x0
      obtain ⟨w', hup, hB'⟩ := HI.out.step (by omega) (HK.out k) (HV.out k)
      have HB' := hide hB'
      clear hB'
      by_cases hl : 0 < lv
      · rw [show vl lv vs k = vs (k % lv) from if_pos hl] at hup
        obtain ⟨y, rfl, hy, hyb⟩ := (H1.out.later HI.out.bel) (k % lv) (Nat.mod_lt _ hl)
        have hm := Nat.mod_lt k hl
        go_wp2_with fail
        go_roundw
        case rel => exact ⟨k + 1, by omega, by go_num, HB'⟩
        case measure => simp [intOf]; omega
      · rw [show vl lv vs k = 0 from if_neg hl] at hup
        go_wp2_with fail
        go_roundw
        case rel => exact ⟨k + 1, by omega, by go_num, HB'⟩
        case measure => simp [intOf]; omega
    · obtain rfl : k = n := by omega
      clear hlt
      go_wp2_with fail
      refine (blast_any _ a1 k c0 lv c1 ks vs kk _ hn (by unfold maxLen; omega) (H0.out.later HI.out.bel) (H1.out.later HI.out.bel)).mono ?_
      rintro e w' ⟨rfl, rfl⟩
      go_wp2_with fail
      refine (sup_any B w1.heap.size k (dist ks (vl lv vs) k) (last ks (vl lv vs) k) kk sz live dead _ (by unfold maxLen; omega) HKey.out HSZ.out HI.out.ne HI.out.log HI.out.map).mono ?_
      rintro e w5 ⟨rfl, hL5, hM5, hz5, hb5⟩
      have HM5 := hide hM5
      have HB5 := hide (HI.out.bel.trans (hb5 w.heap.size HI.out.geB HI.out.ge))
      obtain ⟨c12, c13, _, _, hBlt5⟩ := hL5
      have HSum := hide (sup_self (last ks (vl lv vs) k) kk sz)
      have hlk := hM5.look_ok law9 Yba.underlying32 Yba.underlying3 (zero3 w5) (keyS HKey.out)
      rw [HSum.out] at hlk
      clear hM5 hb5
      generalize (last ks (vl lv vs) k kk).getD 0 = old at *
      rw [live_eq] at c12
      by_cases hp : 0 < sz
      · rw [if_pos hp] at hlk
        go_wp2_with fail
        clear hlk c12 c13
        go_loopw [24, 134] (fun c i wr => ∃ q : Nat, q ≤ k ∧ i = .int .i64 q ∧ c = .int .i64 (cnt ks (vl lv vs) kk q) ∧ Hid (wr = w5)) (fun _ i _ => k - (intOf i).toNat)
        case atStart => exact ⟨0, Nat.zero_le _, rfl, rfl, rfl⟩
        case round =>
          clear HI HS
          obtain ⟨q, hq, rfl, rfl, HW⟩ := hrel
          obtain rfl := HW.out
          obtain ⟨wo, rfl⟩ : ∃ wo : World, wo = wr := ⟨_, rfl⟩
          have hcq := cnt_le ks (vl lv vs) kk q
          by_cases hqk : q < k
          · obtain ⟨x0, hx0, hx, hxb⟩ := (H0.out.later HB5.out) q hqk
            injection hx0 with hx0
            rw [← hx0] at hx hxb
            clear hx0 x0
            go_wp2_with fail
            go_loopw [27, 28] (fun f j ws => ∃ r : Nat, r ≤ q ∧ j = .int .i64 r ∧ f = .bool true ∧ Hid (ws = wo) ∧ Hid (∀ t, t < r → ks t ≠ ks q)) (fun _ j _ => q - (intOf j).toNat)
            case atStart => exact ⟨0, Nat.zero_le _, rfl, rfl, rfl, fun t ht => by omega⟩
            case round =>
              obtain ⟨r, hr, rfl, rfl, HW2, HN⟩ := hrel
              obtain rfl := HW2.out
              by_cases hrq : r < q
              · obtain ⟨x', hx', hxr, hxb'⟩ := (H0.out.later HB5.out) r (by omega)
                injection hx' with hx'
                rw [← hx'] at hxr
                clear hx' hxb'
                by_cases he : ks r = ks q
                · have he' := str_eq he
                  have HC : Hid (cnt ks (vl lv vs) kk (q + 1) = cnt ks (vl lv vs) kk q) := by
                    show (if _ then _ else _) = _
                    rw [if_neg (by rw [last_some ks (vl lv vs) (ks q) q r hrq he]; simp)]
                  clear he
                  go_wp2_with fail
                  go_roundw
                  case rel => exact ⟨q + 1, by omega, by go_num, by rw [HC.out], by simp [Hid]⟩
                  case measure => simp [intOf]; omega
                · have he' := str_ne he
                  have HN' : Hid (∀ t, t < r + 1 → ks t ≠ ks q) := fun t ht => by
                    by_cases e : t = r
                    · rw [e]; exact he
                    · exact HN.out t (by omega)
                  clear he
                  go_wp2_with fail
                  go_roundw
                  case rel => exact ⟨r + 1, by omega, by go_num, rfl, by simp [Hid], HN'⟩
                  case measure => simp [intOf]; omega
              · obtain rfl : r = q := by omega
                have HL := hide (last_none ks (vl lv vs) (ks r) r HN.out)
                by_cases he : ks r = kk
                · have he' := str_eq he
                  have HC : Hid (cnt ks (vl lv vs) kk (r + 1) = cnt ks (vl lv vs) kk r) := by
                    show (if _ then _ else _) = _
                    rw [if_neg (fun h => h.2 he)]
                  clear he
                  go_wp2_with fail
                  go_roundw
                  case rel => exact ⟨r + 1, by omega, by go_num, by rw [HC.out], by simp [Hid]⟩
                  case measure => simp [intOf]; omega
                · have he' := str_ne he
                  have HC : Hid (cnt ks (vl lv vs) kk (r + 1) = cnt ks (vl lv vs) kk r + 1) := by
                    show (if _ then _ else _) = _
                    rw [if_pos ⟨by rw [HL.out]; rfl, he⟩]
                  have hlk := HM5.out.look_ok law9 Yba.underlying32 Yba.underlying3 (zero3 _) (keyS (HK.out r))
                  rw [show sup (last ks (vl lv vs) k) kk sz (ks r) = last ks (vl lv vs) k (ks r) from if_neg he, last_some ks (vl lv vs) (ks r) k r hqk rfl] at hlk
                  have HLS := hide (last_some ks (vl lv vs) (ks r) k r hqk rfl)
                  clear he
                  go_wp2_with fail
                  refine (blast_any _ a1 k c0 lv c1 ks vs (ks r) _ hn (by unfold maxLen; omega) (H0.out.later HB5.out) (H1.out.later HB5.out)).mono ?_
                  rintro e w' ⟨rfl, hw'⟩
                  obtain rfl := hw'
                  go_wp2_with fail
                  go_roundw
                  case rel => exact ⟨r + 1, by omega, by go_num, by rw [HC.out]; go_num, by simp [Hid]⟩
                  case measure => simp [intOf]; omega
          · obtain rfl : q = k := by omega
            clear hqk
            have hlen : ∀ ty, (Builtin.len_ #[32] ty #[.map (some w1.heap.size)]).run Yba.prog wo = .ok (.int .i64 ((cnt ks (vl lv vs) kk q : Int) + 1)) wo := fun ty => by
              rw [HM5.out.len Yba.underlying32 ty, count_right, if_pos hp]; rfl
            go_wp2_with fail
            go_ret
            exact ⟨by simp, HB5.out⟩
      · rw [if_neg hp] at hlk
        go_wp2_with fail
        clear hlk c12 c13
        go_loopw [24, 134] (fun c i wr => ∃ q : Nat, q ≤ k ∧ i = .int .i64 q ∧ c = .int .i64 (cnt ks (vl lv vs) kk q) ∧ Hid (wr = w5)) (fun _ i _ => k - (intOf i).toNat)
        case atStart => exact ⟨0, Nat.zero_le _, rfl, rfl, rfl⟩
        case round =>
          clear HI HS
          obtain ⟨q, hq, rfl, rfl, HW⟩ := hrel
          obtain rfl := HW.out
          obtain ⟨wo, rfl⟩ : ∃ wo : World, wo = wr := ⟨_, rfl⟩
          have hcq := cnt_le ks (vl lv vs) kk q
          by_cases hqk : q < k
          · obtain ⟨x0, hx0, hx, hxb⟩ := (H0.out.later HB5.out) q hqk
            injection hx0 with hx0
            rw [← hx0] at hx hxb
            clear hx0 x0
            go_wp2_with fail
            go_loopw [27, 28] (fun f j ws => ∃ r : Nat, r ≤ q ∧ j = .int .i64 r ∧ f = .bool true ∧ Hid (ws = wo) ∧ Hid (∀ t, t < r → ks t ≠ ks q)) (fun _ j _ => q - (intOf j).toNat)
            case atStart => exact ⟨0, Nat.zero_le _, rfl, rfl, rfl, fun t ht => by omega⟩
            case round =>
              obtain ⟨r, hr, rfl, rfl, HW2, HN⟩ := hrel
              obtain rfl := HW2.out
              by_cases hrq : r < q
              · obtain ⟨x', hx', hxr, hxb'⟩ := (H0.out.later HB5.out) r (by omega)
                injection hx' with hx'
                rw [← hx'] at hxr
                clear hx' hxb'
                by_cases he : ks r = ks q
                · have he' := str_eq he
                  have HC : Hid (cnt ks (vl lv vs) kk (q + 1) = cnt ks (vl lv vs) kk q) := by
                    show (if _ then _ else _) = _
                    rw [if_neg (by rw [last_some ks (vl lv vs) (ks q) q r hrq he]; simp)]
                  clear he
                  go_wp2_with fail
                  go_roundw
                  case rel => exact ⟨q + 1, by omega, by go_num, by rw [HC.out], by simp [Hid]⟩
                  case measure => simp [intOf]; omega
                · have he' := str_ne he
                  have HN' : Hid (∀ t, t < r + 1 → ks t ≠ ks q) := fun t ht => by
                    by_cases e : t = r
                    · rw [e]; exact he
                    · exact HN.out t (by omega)
                  clear he
                  go_wp2_with fail
                  go_roundw
                  case rel => exact ⟨r + 1, by omega, by go_num, rfl, by simp [Hid], HN'⟩
                  case measure => simp [intOf]; omega
              · obtain rfl : r = q := by omega
                have HL := hide (last_none ks (vl lv vs) (ks r) r HN.out)
                by_cases he : ks r = kk
                · have he' := str_eq he
                  have HC : Hid (cnt ks (vl lv vs) kk (r + 1) = cnt ks (vl lv vs) kk r) := by
                    show (if _ then _ else _) = _
                    rw [if_neg (fun h => h.2 he)]
                  clear he
                  go_wp2_with fail
                  go_roundw
                  case rel => exact ⟨r + 1, by omega, by go_num, by rw [HC.out], by simp [Hid]⟩
                  case measure => simp [intOf]; omega
                · have he' := str_ne he
                  have HC : Hid (cnt ks (vl lv vs) kk (r + 1) = cnt ks (vl lv vs) kk r + 1) := by
                    show (if _ then _ else _) = _
                    rw [if_pos ⟨by rw [HL.out]; rfl, he⟩]
                  have hlk := HM5.out.look_ok law9 Yba.underlying32 Yba.underlying3 (zero3 _) (keyS (HK.out r))
                  rw [show sup (last ks (vl lv vs) k) kk sz (ks r) = last ks (vl lv vs) k (ks r) from if_neg he, last_some ks (vl lv vs) (ks r) k r hqk rfl] at hlk
                  have HLS := hide (last_some ks (vl lv vs) (ks r) k r hqk rfl)
                  clear he
                  go_wp2_with fail
                  refine (blast_any _ a1 k c0 lv c1 ks vs (ks r) _ hn (by unfold maxLen; omega) (H0.out.later HB5.out) (H1.out.later HB5.out)).mono ?_
                  rintro e w' ⟨rfl, hw'⟩
                  obtain rfl := hw'
                  go_wp2_with fail
                  go_roundw
                  case rel => exact ⟨r + 1, by omega, by go_num, by rw [HC.out]; go_num, by simp [Hid]⟩
                  case measure => simp [intOf]; omega
          · obtain rfl : q = k := by omega
            clear hqk
            have hlen : ∀ ty, (Builtin.len_ #[32] ty #[.map (some w1.heap.size)]).run Yba.prog wo = .ok (.int .i64 (cnt ks (vl lv vs) kk q : Int)) wo := fun ty => by
              rw [HM5.out.len Yba.underlying32 ty, count_right, if_neg (by omega)]; rfl
            go_wp2_with fail
            go_ret
            exact ⟨by simp, HB5.out⟩

set_option maxRecDepth 100000 in
set_option maxHeartbeats 2000000 in
theorem law_c (a0 a1 : Option Addr) (n c0 lv c1 : Nat) (ks : Nat → ByteArray) (vs : Nat → Int) (sel : Nat) (key : ByteArray) (sz live dead : Int) (w : World) (hlv : lv ≤ maxLen) (h0 : SrcS w a0 n ks) (h1 : SrcI w a1 lv vs)
    (hks : ∀ i, (ks i).size ≤ maxLen) (hvs : ∀ i, (Lit.int .i64 (vl lv vs i)).wf = true) (hkey : key.size ≤ maxLen) (hse1 : sel ≤ 255) (hsz : (Lit.int .i64 sz).wf = true)
    (hn : n ≤ 1024) (hn0 : 0 < n) (hev : ((sel : Int) % 2 == 0) = false) :
    Calls Yba.prog 3 #[.slice a0 n c0, .slice a1 lv c1, .int .u8 sel, .string key, .int .i64 sz, .int .i64 live, .int .i64 dead] w fun e w' => e = .returned (.bool true) ∧ Below w.heap.size w w' := by
  have hmm := @run_makeMap Yba.prog
  unfold maxLen at hlv
  have H0 := hide h0
  have H1 := hide h1
  have HK := hide hks
  have HV := hide hvs
  have HKey := hide hkey
  have HSZ := hide hsz
  clear h0 h1 hks hvs hkey hsz
  go_enter Yba.func3, Yba.ntmps3
  go_wp2_with fail
  refine (newLog_any _ _).mono ?_
  rintro e w1 ⟨B, rfl, hL, hBge, hb1⟩
  have HL := hide hL
  have HB1 := hide hb1
  obtain ⟨c12, c13, f12, f13, hBlt⟩ := hL
  have hsz1 := hb1.size
  clear hb1
  go_wp2_with fail
  have HS := hide (built_start w w1 B ks (vl lv vs) live dead HL.out HB1.out hBge)
  clear HL HB1 c12 c13 f12 f13 hmm
  go_loopw [65] (fun i wr => ∃ k : Nat, k ≤ n ∧ i = .int .i64 k ∧ Hid (Built w wr B w1.heap.size k ks (vl lv vs) live dead)) (fun i _ => n - (intOf i).toNat)
  case atStart => exact ⟨0, Nat.zero_le _, rfl, HS⟩
  case round =>
    obtain ⟨k, hk, rfl, HI⟩ := hrel
    by_cases hlt : k < n
    · obtain ⟨x, rfl, hx, hxb⟩ := (H0.out.later HI.out.bel) k hlt
      obtain ⟨w', hup, hB'⟩ := HI.out.step (by omega) (HK.out k) (HV.out k)
      have HB' := hide hB'
      clear hB'
      by_cases hl : 0 < lv
      · rw [show vl lv vs k = vs (k % lv) from if_pos hl] at hup
        obtain ⟨y, rfl, hy, hyb⟩ := (H1.out.later HI.out.bel) (k % lv) (Nat.mod_lt _ hl)
        have hm := Nat.mod_lt k hl
        go_wp2_with fail
        go_roundw
        case rel => exact ⟨k + 1, by omega, by go_num, HB'⟩
        case measure => simp [intOf]; omega
      · rw [show vl lv vs k = 0 from if_neg hl] at hup
        go_wp2_with fail
        go_roundw
        case rel => exact ⟨k + 1, by omega, by go_num, HB'⟩
        case measure => simp [intOf]; omega
    · obtain rfl : k = n := by omega
      clear hlt
      go_wp2_with fail
      refine (blast_any _ a1 k c0 lv c1 ks vs key _ hn (by unfold maxLen; omega) (H0.out.later HI.out.bel) (H1.out.later HI.out.bel)).mono ?_
      rintro e w' ⟨rfl, rfl⟩
      go_wp2_with fail
      refine (sup_any B w1.heap.size k (dist ks (vl lv vs) k) (last ks (vl lv vs) k) key sz live dead _ (by unfold maxLen; omega) HKey.out HSZ.out HI.out.ne HI.out.log HI.out.map).mono ?_
      rintro e w5 ⟨rfl, hL5, hM5, hz5, hb5⟩
      have HM5 := hide hM5
      have HB5 := hide (HI.out.bel.trans (hb5 w.heap.size HI.out.geB HI.out.ge))
      obtain ⟨c12, c13, _, _, hBlt5⟩ := hL5
      have HSum := hide (sup_self (last ks (vl lv vs) k) key sz)
      have hlk := hM5.look_ok law9 Yba.underlying32 Yba.underlying3 (zero3 w5) (keyS HKey.out)
      rw [HSum.out] at hlk
      clear hM5 hb5
      generalize (last ks (vl lv vs) k key).getD 0 = old at *
      rw [live_eq] at c12
      by_cases hp : 0 < sz
      · rw [if_pos hp] at hlk
        go_wp2_with fail
        clear hlk c12 c13
        go_loopw [24, 134] (fun c i wr => ∃ q : Nat, q ≤ k ∧ i = .int .i64 q ∧ c = .int .i64 (cnt ks (vl lv vs) key q) ∧ Hid (wr = w5)) (fun _ i _ => k - (intOf i).toNat)
        case atStart => exact ⟨0, Nat.zero_le _, rfl, rfl, rfl⟩
        case round =>
          clear HI HS
          obtain ⟨q, hq, rfl, rfl, HW⟩ := hrel
          obtain rfl := HW.out
          obtain ⟨wo, rfl⟩ : ∃ wo : World, wo = wr := ⟨_, rfl⟩
          have hcq := cnt_le ks (vl lv vs) key q
          by_cases hqk : q < k
          · obtain ⟨x, rfl, hx, hxb⟩ := (H0.out.later HB5.out) q hqk
            go_wp2_with fail
            go_loopw [27, 28] (fun f j ws => ∃ r : Nat, r ≤ q ∧ j = .int .i64 r ∧ f = .bool true ∧ Hid (ws = wo) ∧ Hid (∀ t, t < r → ks t ≠ ks q)) (fun _ j _ => q - (intOf j).toNat)
            case atStart => exact ⟨0, Nat.zero_le _, rfl, rfl, rfl, fun t ht => by omega⟩
            case round =>
              obtain ⟨r, hr, rfl, rfl, HW2, HN⟩ := hrel
              obtain rfl := HW2.out
              by_cases hrq : r < q
              · obtain ⟨x', hx', hxr, hxb'⟩ := (H0.out.later HB5.out) r (by omega)
                injection hx' with hx'
                rw [← hx'] at hxr
                clear hx' hxb'
                by_cases he : ks r = ks q
                · have he' := str_eq he
                  have HC : Hid (cnt ks (vl lv vs) key (q + 1) = cnt ks (vl lv vs) key q) := by
                    show (if _ then _ else _) = _
                    rw [if_neg (by rw [last_some ks (vl lv vs) (ks q) q r hrq he]; simp)]
                  clear he
                  go_wp2_with fail
                  go_roundw
                  case rel => exact ⟨q + 1, by omega, by go_num, by rw [HC.out], by simp [Hid]⟩
                  case measure => simp [intOf]; omega
                · have he' := str_ne he
                  have HN' : Hid (∀ t, t < r + 1 → ks t ≠ ks q) := fun t ht => by
                    by_cases e : t = r
                    · rw [e]; exact he
                    · exact HN.out t (by omega)
                  clear he
                  go_wp2_with fail
                  go_roundw
                  case rel => exact ⟨r + 1, by omega, by go_num, rfl, by simp [Hid], HN'⟩
                  case measure => simp [intOf]; omega
              · obtain rfl : r = q := by omega
                have HL := hide (last_none ks (vl lv vs) (ks r) r HN.out)
                by_cases he : ks r = key
                · have he' := str_eq he
                  have HC : Hid (cnt ks (vl lv vs) key (r + 1) = cnt ks (vl lv vs) key r) := by
                    show (if _ then _ else _) = _
                    rw [if_neg (fun h => h.2 he)]
                  clear he
                  go_wp2_with fail
                  go_roundw
                  case rel => exact ⟨r + 1, by omega, by go_num, by rw [HC.out], by simp [Hid]⟩
                  case measure => simp [intOf]; omega
                · have he' := str_ne he
                  have HC : Hid (cnt ks (vl lv vs) key (r + 1) = cnt ks (vl lv vs) key r + 1) := by
                    show (if _ then _ else _) = _
                    rw [if_pos ⟨by rw [HL.out]; rfl, he⟩]
                  have hlk := HM5.out.look_ok law9 Yba.underlying32 Yba.underlying3 (zero3 _) (keyS (HK.out r))
                  rw [show sup (last ks (vl lv vs) k) key sz (ks r) = last ks (vl lv vs) k (ks r) from if_neg he, last_some ks (vl lv vs) (ks r) k r hqk rfl] at hlk
                  have HLS := hide (last_some ks (vl lv vs) (ks r) k r hqk rfl)
                  clear he
                  go_wp2_with fail
                  refine (blast_any _ a1 k c0 lv c1 ks vs (ks r) _ hn (by unfold maxLen; omega) (H0.out.later HB5.out) (H1.out.later HB5.out)).mono ?_
                  rintro e w' ⟨rfl, hw'⟩
                  obtain rfl := hw'
                  go_wp2_with fail
                  go_roundw
                  case rel => exact ⟨r + 1, by omega, by go_num, by rw [HC.out]; go_num, by simp [Hid]⟩
                  case measure => simp [intOf]; omega
          · obtain rfl : q = k := by omega
            clear hqk
            have hlen : ∀ ty, (Builtin.len_ #[32] ty #[.map (some w1.heap.size)]).run Yba.prog wo = .ok (.int .i64 ((cnt ks (vl lv vs) key q : Int) + 1)) wo := fun ty => by
              rw [HM5.out.len Yba.underlying32 ty, count_right, if_pos hp]; rfl
            go_wp2_with fail
            go_ret
            exact ⟨by simp, HB5.out⟩
      · rw [if_neg hp] at hlk
        go_wp2_with fail
        clear hlk c12 c13
        go_loopw [24, 134] (fun c i wr => ∃ q : Nat, q ≤ k ∧ i = .int .i64 q ∧ c = .int .i64 (cnt ks (vl lv vs) key q) ∧ Hid (wr = w5)) (fun _ i _ => k - (intOf i).toNat)
        case atStart => exact ⟨0, Nat.zero_le _, rfl, rfl, rfl⟩
        case round =>
          clear HI HS
          obtain ⟨q, hq, rfl, rfl, HW⟩ := hrel
          obtain rfl := HW.out
          obtain ⟨wo, rfl⟩ : ∃ wo : World, wo = wr := ⟨_, rfl⟩
          have hcq := cnt_le ks (vl lv vs) key q
          by_cases hqk : q < k
          · obtain ⟨x, rfl, hx, hxb⟩ := (H0.out.later HB5.out) q hqk
            go_wp2_with fail
            go_loopw [27, 28] (fun f j ws => ∃ r : Nat, r ≤ q ∧ j = .int .i64 r ∧ f = .bool true ∧ Hid (ws = wo) ∧ Hid (∀ t, t < r → ks t ≠ ks q)) (fun _ j _ => q - (intOf j).toNat)
            case atStart => exact ⟨0, Nat.zero_le _, rfl, rfl, rfl, fun t ht => by omega⟩
            case round =>
              obtain ⟨r, hr, rfl, rfl, HW2, HN⟩ := hrel
              obtain rfl := HW2.out
              by_cases hrq : r < q
              · obtain ⟨x', hx', hxr, hxb'⟩ := (H0.out.later HB5.out) r (by omega)
                injection hx' with hx'
                rw [← hx'] at hxr
                clear hx' hxb'
                by_cases he : ks r = ks q
                · have he' := str_eq he
                  have HC : Hid (cnt ks (vl lv vs) key (q + 1) = cnt ks (vl lv vs) key q) := by
                    show (if _ then _ else _) = _
                    rw [if_neg (by rw [last_some ks (vl lv vs) (ks q) q r hrq he]; simp)]
                  clear he
                  go_wp2_with fail
                  go_roundw
                  case rel => exact ⟨q + 1, by omega, by go_num, by rw [HC.out], by simp [Hid]⟩
                  case measure => simp [intOf]; omega
                · have he' := str_ne he
                  have HN' : Hid (∀ t, t < r + 1 → ks t ≠ ks q) := fun t ht => by
                    by_cases e : t = r
                    · rw [e]; exact he
                    · exact HN.out t (by omega)
                  clear he
                  go_wp2_with fail
                  go_roundw
                  case rel => exact ⟨r + 1, by omega, by go_num, rfl, by simp [Hid], HN'⟩
                  case measure => simp [intOf]; omega
              · obtain rfl : r = q := by omega
                have HL := hide (last_none ks (vl lv vs) (ks r) r HN.out)
                by_cases he : ks r = key
                · have he' := str_eq he
                  have HC : Hid (cnt ks (vl lv vs) key (r + 1) = cnt ks (vl lv vs) key r) := by
                    show (if _ then _ else _) = _
                    rw [if_neg (fun h => h.2 he)]
                  clear he
                  go_wp2_with fail
                  go_roundw
                  case rel => exact ⟨r + 1, by omega, by go_num, by rw [HC.out], by simp [Hid]⟩
                  case measure => simp [intOf]; omega
                · have he' := str_ne he
                  have HC : Hid (cnt ks (vl lv vs) key (r + 1) = cnt ks (vl lv vs) key r + 1) := by
                    show (if _ then _ else _) = _
                    rw [if_pos ⟨by rw [HL.out]; rfl, he⟩]
                  have hlk := HM5.out.look_ok law9 Yba.underlying32 Yba.underlying3 (zero3 _) (keyS (HK.out r))
                  rw [show sup (last ks (vl lv vs) k) key sz (ks r) = last ks (vl lv vs) k (ks r) from if_neg he, last_some ks (vl lv vs) (ks r) k r hqk rfl] at hlk
                  have HLS := hide (last_some ks (vl lv vs) (ks r) k r hqk rfl)
                  clear he
                  go_wp2_with fail
                  refine (blast_any _ a1 k c0 lv c1 ks vs (ks r) _ hn (by unfold maxLen; omega) (H0.out.later HB5.out) (H1.out.later HB5.out)).mono ?_
                  rintro e w' ⟨rfl, hw'⟩
                  obtain rfl := hw'
                  go_wp2_with fail
                  go_roundw
                  case rel => exact ⟨r + 1, by omega, by go_num, by rw [HC.out]; go_num, by simp [Hid]⟩
                  case measure => simp [intOf]; omega
          · obtain rfl : q = k := by omega
            clear hqk
            have hlen : ∀ ty, (Builtin.len_ #[32] ty #[.map (some w1.heap.size)]).run Yba.prog wo = .ok (.int .i64 (cnt ks (vl lv vs) key q : Int)) wo := fun ty => by
              rw [HM5.out.len Yba.underlying32 ty, count_right, if_neg (by omega)]; rfl
            go_wp2_with fail
            go_ret
            exact ⟨by simp, HB5.out⟩

end Go.Proofs.Ybulkbpk
