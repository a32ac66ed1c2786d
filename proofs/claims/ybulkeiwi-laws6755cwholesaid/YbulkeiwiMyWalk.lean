/-
  The walk of LawS6755CWhole.
-/
import Derived.Test.YbulkeiwiMyParts
namespace Go.Proofs.Ybulkeiwi
open Go.RowKit Go.ChangeMaps

theorem info25' : (Yba.prog.info? 25).map (fun i => (i.zero, i.size, i.bytes)) = some (some (.pointer none), 1, 8) := by kernel_rfl
theorem info4' : (Yba.prog.info? 4).map (fun i => (i.zero, i.size, i.bytes)) = some (some (.bool false), 1, 1) := by kernel_rfl

theorem run_len0 {w : World} {mb k : Nat} (hb : w.heap[mb]? = some (.map #[] k)) (ty : TypeId) :
    (Builtin.len_ #[40] ty #[.map (some mb)]).run Yba.prog w = .ok (.int .i64 0) w := by
  simp [Builtin.len_, run_underlying Yba.underlying40, MapKept.run_getObj_map hb, goInt]

theorem len_case {w wr : World} {B n p : Nat} {trk : Nat → Bool} {L : List (Nat × Nat)} (h : R2 w B n trk n L wr) (hp : p < n) :
    ((L.eraseP (fun x => x.1 == B + 1 + p)).length : Int) = if trk p then (L.length : Int) - 1 else L.length := by
  cases htr : trk p
  · rw [len_miss h htr]; rfl
  · exact (len_hit h hp htr).1
theorem len_pos {w wr : World} {B n p : Nat} {trk : Nat → Bool} {L : List (Nat × Nat)} (h : R2 w B n trk n L wr) (hp : p < n) (ht : trk p = true) : 1 ≤ L.length := (len_hit h hp ht).2

theorem R3.isC1 {w wr : World} {B n p c : Nat} {trk : Nat → Bool} {L : List (Nat × Nat)} (h : R3 w B n trk p L c wr) {j : Nat} (hj : j < n) : isC wr (B + 1 + j) := ⟨_, _, h.clos j hj⟩

theorem hideIt {q : Prop} (h : q) : Hid q := h

set_option maxRecDepth 100000 in
set_option maxHeartbeats 2000000 in
theorem law_some (a0 a2 : Int) (b off len cap n p : Nat) (zs : Nat → Bool) (w : World)
    (h0 : 0 ≤ a0) (h0' : a0 ≤ 65535) (h2 : 0 ≤ a2) (h2' : a2 ≤ 65535) (hn : a0 % 512 + 1 = (n : Int)) (hp : a2 % (n : Int) = (p : Int)) (hpn : p < n) (_hn5 : n ≤ 512)
    (hlen : len ≤ 9223372036854775807) (hb : b < w.heap.size) (hz : ∀ k, k < len → w.cell? ⟨b, off + k, none⟩ = some (.bool (zs k))) :
    Calls Yba.prog 3 #[.int .u16 a0, .slice (some ⟨b, off, none⟩) len cap, .int .u16 a2] w fun e w' => e = .returned (.bool true) ∧ Below w.heap.size w w' := by
  have hmk := fun w => run_make_row' (P := Yba.prog) 24 25 (.pointer none) 8 Yba.underlying24 info25' rfl .i64 .i64 n (by omega) (by omega) w
  have hmk2 := fun w => run_make_row' (P := Yba.prog) 23 4 (.bool false) 1 Yba.underlying23 info4' rfl .i64 .i64 n (by omega) (by omega) w
  go_enter Yba.func3, Yba.ntmps3
  go_wp2
  go_loopw [9] (fun i wr => ∃ k : Nat, k ≤ n ∧ i = .int .i64 k ∧ R1 w w.heap.size n k wr) (fun i _ => n - (intOf i).toNat)
  case atStart => exact ⟨0, Nat.zero_le _, rfl, R1.start w n⟩
  case round =>
    obtain ⟨k, hk, rfl, hR⟩ := hrel
    by_cases hlt : k < n
    · have hc := hR.cell' hlt (clo k 0)
      have hf := hR.frozen' (clo k 0)
      have hs := hR.size
      go_wp2
      go_roundw
      case rel => exact ⟨k + 1, by omega, by go_num, hR.step⟩
      case measure => simp [intOf]; omega
    · have hs := hR.size
      have hkn : n = k := by omega
      subst hkn
      go_wp2_with fail
      refine (newServer_any _).mono ?_
      rintro e w1 ⟨rfl, hw1⟩
      rw [hs] at hw1 ⊢
      subst hw1
      go_wp2
      have hR2 := R2.start (fun j => decide (j < len) && zs j) hR
      obtain ⟨trk, htrk⟩ : ∃ trk : Nat → Bool, trk = fun j => decide (j < len) && zs j := ⟨_, rfl⟩
      rw [← htrk] at hR2
      have Htrk : ∀ j, Hid (trk j = (decide (j < len) && zs j)) := fun j => by rw [htrk]; exact rfl
      clear htrk hs hk hlt
      go_loopw [12, 13] (fun wn i wr => ∃ (k : Nat) (L : List (Nat × Nat)), k ≤ n ∧ i = .int .i64 k ∧ wn = .int .i64 L.length ∧ R2 w w.heap.size n trk k L wr) (fun _ i _ => n - (intOf i).toNat)
      case atStart => exact ⟨0, [], Nat.zero_le _, rfl, rfl, hR2⟩
      case round =>
        clear hR2 hR hmk hmk2
        obtain ⟨k, L, hk, rfl, rfl, hR⟩ := hrel
        by_cases hlt : k < n
        · have hcs := hR.csCell hlt
          have hLk := hR.len
          by_cases htr : trk k = true
          · have ht := (Htrk k).out
            rw [htr] at ht
            simp only [Bool.true_eq, Bool.and_eq_true, decide_eq_true_eq] at ht
            obtain ⟨ht, hzk⟩ := ht
            have hcx := (hR.below.cell (p := ⟨b, off + k, none⟩) hb).trans (hz k ht)
            rw [hzk] at hcx
            have hst := hR.hit htr
            have hon := hR.onCell' hlt (.map (ent (L ++ [(w.heap.size + 1 + k, L.length)])) (L.length + 1))
            have hof := hR.onFrozen' (.map (ent (L ++ [(w.heap.size + 1 + k, L.length)])) (L.length + 1))
            have htk := track_any (w.heap.size + 1 + n) (w.heap.size + 1 + k) L.length L _ hR.serv hR.chan hR.opn (hR.isC hlt) (hR.isCs hk) hR.fresh
            have HR := hideIt hst
            clear hst hzk htr
            generalize setBlock _ _ _ = w2 at *
            go_wp2_with fail
            refine htk.mono ?_
            rintro e w' ⟨rfl, rfl⟩
            clear htk
            go_wp2
            go_roundw
            case rel => exact ⟨k + 1, _, by omega, by go_num, by simp, HR.out⟩
            case measure => simp [intOf]; omega
          · rw [Bool.not_eq_true] at htr
            have HR := hideIt (hR.miss htr)
            have hct : k < len → wr.cell? ⟨b, off + k, none⟩ = some (.bool false) := fun ht => by
              have := (Htrk k).out
              rw [htr] at this
              simp only [ht, decide_true, Bool.true_and] at this
              rw [this]
              exact (hR.below.cell (p := ⟨b, off + k, none⟩) hb).trans (hz k ht)
            clear htr
            by_cases ht : k < len
            · have hcx := hct ht
              clear hct
              go_wp2
              go_roundw
              case rel => exact ⟨k + 1, _, by omega, by go_num, rfl, HR.out⟩
              case measure => simp [intOf]; omega
            · clear hct
              go_wp2
              go_roundw
              case rel => exact ⟨k + 1, _, by omega, by go_num, rfl, HR.out⟩
              case measure => simp [intOf]; omega
        · have hkn : n = k := by omega
          subst hkn
          have hcs := hR.csCell hpn
          have hLk := hR.len
          have hon := hR.onCell hpn
          rw [decide_eq_true hpn, Bool.true_and] at hon
          have hut := untrack_any (w.heap.size + 1 + n) (w.heap.size + 1 + p) L.length L p 0 _ (by omega) hR.serv hR.opn (hR.clos p hpn) (hR.isCs hk) (by omega) (by omega)
          have hR3 := R3.start hR hpn
          have hLL := len_case hR hpn
          generalize hL' : L.eraseP (fun x => x.1 == w.heap.size + 1 + p) = L' at *
          clear hL'
          generalize setBlock _ _ _ = w3 at *
          have hl1 := fun ty => run_len_kv hR3.opn ty
          have hl0 := fun ty => run_len0 hR3.services ty
          rw [hLL] at hl1
          have hs4 : w3.cell? ⟨w.heap.size + 1 + n + 3, 4, none⟩ = some (.map (some (w.heap.size + 1 + n))) := cell_of_heap hR3.serv rfl
          have hs5 : w3.cell? ⟨w.heap.size + 1 + n + 3, 5, none⟩ = some (.map (some (w.heap.size + 1 + n + 1))) := cell_of_heap hR3.serv rfl
          have hpos : trk p = true → 1 ≤ L.length := fun h => len_pos hR hpn h
          clear hLL hR Htrk
          cases htr : trk p
          all_goals
            rw [htr] at hon hl1
            simp only [Bool.false_eq_true, if_false, if_true] at hl1
            simp only [htr, forall_const, Bool.false_eq_true, false_imp_iff] at hpos
            clear htr
            go_wp2_with fail
            refine hut.mono ?_
            rintro e w' ⟨rfl, rfl⟩
            clear hut
            go_wp2
            clear hl0 hl1 hs4 hs5
            go_loopw [15] (fun i wr => ∃ k : Nat, k ≤ n ∧ i = .int .i64 k ∧ R3 w w.heap.size n trk p L' L.length wr) (fun i _ => n - (intOf i).toNat)
            case atStart => exact ⟨0, Nat.zero_le _, rfl, hR3⟩
            case round =>
              clear hR3
              obtain ⟨k, hk, rfl, hR⟩ := hrel
              by_cases hlt : k < n
              · have hcs := hR.csCell hlt
                have hon := hR.onCell hlt
                have hs := hR.size
                have hs5 : wr.cell? ⟨w.heap.size + 1 + n + 3, 5, none⟩ = some (.map (some (w.heap.size + 1 + n + 1))) := cell_of_heap hR.serv rfl
                have hid := fun (o : Nat) (v : Value) (hv : (#[Value.int .i64 (k : Int), Value.int .i64 (if k = p then 1 else 0)] : Array Value)[o]? = some v) => cell_of_heap (hR.clos k hlt) hv
                have hid0 : wr.cell? ⟨w.heap.size + 1 + k, 0, none⟩ = some (.int .i64 k) := hid 0 _ rfl
                have hid1 : wr.cell? ⟨w.heap.size + 1 + k, 1, none⟩ = some (.int .i64 (if k = p then 1 else 0)) := hid 1 _ rfl
                clear hid
                have hb1 : w.heap.size < wr.heap.size := by omega
                have hb2 : w.heap.size + 1 + k < wr.heap.size := by omega
                have hb3 : w.heap.size + 1 + n + 3 < wr.heap.size := by omega
                have hb4 : w.heap.size + 1 + n + 1 + 1 + 1 + 1 < wr.heap.size := by omega
                have hlk1 := run_lookup_kv hR.drew.opn (hR.drew.isC1 hlt) hR.drew.isCs
                have hlk2 := run_lookup_kv (hR.alloc (.cells #[] 33)).drew.opn ((hR.alloc (.cells #[] 33)).drew.isC1 hlt) (hR.alloc (.cells #[] 33)).drew.isCs
                rw [hR.any hlt] at hlk1 hlk2
                have HR := hideIt (hR.alloc (.cells #[] 33)).drew
                clear hR hs
                by_cases hkp : k = p
                · rw [if_pos hkp] at hid1
                  have hd : decide (k ≠ p) = false := by simp [hkp]
                  rw [hd, Bool.and_false] at hlk1 hlk2
                  have hk1 : k ≤ p := by omega
                  have hk2 : p ≤ k := by omega
                  clear hkp hd
                  cases htk : trk k
                  all_goals
                    rw [htk] at hon
                    clear htk
                    go_wp2
                    go_region
                    all_goals
                      go_wp2
                      go_roundw
                      case rel => exact ⟨k + 1, by omega, by go_num, HR.out⟩
                      case measure => simp [intOf]; omega
                · rw [if_neg hkp] at hid1
                  have hd : decide (k ≠ p) = true := by simp [hkp]
                  rw [hd, Bool.and_true] at hlk1 hlk2
                  have hk1 : ((k : Int) == (p : Int)) = false := beq_eq_false_iff_ne.2 (by omega)
                  have hk2 : ((k : Int) != (p : Int)) = true := bne_iff_ne.2 (by omega)
                  clear hd hkp
                  cases htk : trk k
                  all_goals
                    rw [htk] at hon
                    rw [htk] at hlk1 hlk2
                    clear htk
                    go_wp2
                    go_region
                    all_goals
                      go_wp2
                      go_roundw
                      case rel => exact ⟨k + 1, by omega, by go_num, HR.out⟩
                      case measure => simp [intOf]; omega
              · go_wp2
                go_ret
                exact ⟨rfl, hR.below⟩

end Go.Proofs.Ybulkeiwi
