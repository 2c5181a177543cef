import Derived.Test.Qxb6601693aDoorW1
import Derived.Lib.AppendStr
import Derived.Lib.UnsafeStr
import Derived.Laws.IdiomStrings
namespace Go.Proofs.Qxb6601693aDoor
open Go.RowKit

theorem getD_mem {ss : List ByteArray} {k : Nat} (h : k < ss.length) {X : ByteArray → Prop} (hx : ∀ s ∈ ss, X s) : X (ss.getD k ByteArray.empty) := by
  rw [List.getD_eq_getElem?_getD, List.getElem?_eq_getElem h]
  exact hx _ (List.getElem_mem h)

/-- what zzMatchFits lets by -/
def Fits (ss : List ByteArray) (acc name : ByteArray) : Prop := ss.length ≤ 4096 ∧ acc.size ≤ 4096 ∧ name.size ≤ 4096 ∧ ∀ i, i < ss.length → (ss.getD i ByteArray.empty).size ≤ 65536

set_option maxHeartbeats 1000000 in
theorem fits_any (v : Value) (b : Bool) (acc name : ByteArray) (ss : List ByteArray) (w : World) (h : ArgAt w v ss) (hl : ss.length ≤ maxLen) (hss : ∀ s ∈ ss, s.size ≤ maxLen) (ha : acc.size ≤ maxLen) (hn : name.size ≤ maxLen) :
    Calls Tryd.prog 9 #[v, .bool b, .string acc, .string name] w (Guard w (Fits ss acc name)) := by
  unfold maxLen at *
  by_cases h1 : ss.length ≤ 4096
  · by_cases h2 : acc.size ≤ 4096
    · by_cases h3 : name.size ≤ 4096
      · rcases h with ⟨rfl, rfl⟩ | ⟨a, c, rfl, hc⟩
        · go_enter Tryd.func9, Tryd.ntmps9
          go_wp2
          go_loop [9, 10, 11] (fun _ p i => p = .int .i64 0 ∧ i = .int .i64 0) (fun _ _ _ => 0)
          case atStart => exact ⟨rfl, rfl⟩
          case round =>
            obtain ⟨rfl, rfl⟩ := hrel
            go_wp2
            all_goals
              go_ret
              exact ⟨_, rfl, fun _ => ⟨h1, h2, h3, fun i hi => absurd hi (Nat.not_lt_zero _)⟩, rfl⟩
        · go_enter Tryd.func9, Tryd.ntmps9
          go_wp2
          go_loop [9, 10, 11] (fun x p i => ∃ t n k : Nat, t ≤ 65536 ∧ n ≤ t ∧ k ≤ ss.length ∧ x = .int .i64 t ∧ p = .int .i64 n ∧ i = .int .i64 k ∧ ∀ j, j < k → (ss.getD j ByteArray.empty).size ≤ 65536) (fun _ _ i => ss.length - (intOf i).toNat)
          case atStart => exact ⟨0, 0, 0, Nat.zero_le _, Nat.zero_le _, Nat.zero_le _, rfl, rfl, rfl, fun i hi => absurd hi (Nat.not_lt_zero _)⟩
          case round =>
            obtain ⟨t, n, k, ht, hnt, hk, rfl, rfl, rfl, hall⟩ := hrel
            have HALL : Hid (∀ j, j < k → (ss.getD j ByteArray.empty).size ≤ 65536) := hall
            clear hall
            by_cases hlt : k < ss.length
            · have hcell := hc k hlt
              have hsz : (ss.getD k ByteArray.empty).size ≤ 9223372036854775807 := getD_mem hlt hss
              have HX : Hid ((ss.getD k ByteArray.empty).size ≤ 65536 → ∀ j, j < k + 1 → (ss.getD j ByteArray.empty).size ≤ 65536) := fun hx j hj => by
                by_cases e : j = k
                · rw [e]; exact hx
                · exact HALL.out j (by omega)
              generalize ss.getD k ByteArray.empty = x at *
              clear hc hss
              by_cases hx : x.size ≤ 65536
              · by_cases hx2 : t + x.size ≤ 65536
                · cases b
                  · go_wp2
                    go_round
                    case rel => exact ⟨t + x.size, n, k + 1, hx2, by omega, by omega, by go_num, rfl, by go_num, HX.out hx⟩
                    case measure => simp [intOf]; omega
                  · go_wp2_with (go_at_call 37; refine (places_any _ _ hx).mono ?_; rintro e w ⟨m, rfl, hm, rfl⟩)
                    go_round
                    case rel => exact ⟨t + x.size, n + m, k + 1, hx2, by omega, by omega, by go_num, by go_num, by go_num, HX.out hx⟩
                    case measure => simp [intOf]; omega
                · go_wp2
                  go_ret
                  exact ⟨_, rfl, (fun h => nomatch h), rfl⟩
              · go_wp2
                go_ret
                exact ⟨_, rfl, (fun h => nomatch h), rfl⟩
            · obtain rfl : k = ss.length := by omega
              clear hc hss
              have hmul : n * acc.size ≤ 65536 * 4096 := Nat.mul_le_mul (by omega) h2
              have hmi : ((n : Int) * (acc.size : Int)) = ((n * acc.size : Nat) : Int) := by simp
              generalize n * acc.size = m at *
              go_wp2
              all_goals
                go_ret
                exact ⟨_, rfl, fun _ => ⟨h1, h2, h3, HALL.out⟩, rfl⟩
      · rcases h with ⟨rfl, rfl⟩ | ⟨a, c, rfl, hc⟩
        all_goals
          go_enter Tryd.func9, Tryd.ntmps9
          go_wp2
          go_ret
          exact ⟨_, rfl, (fun h => nomatch h), rfl⟩
    · rcases h with ⟨rfl, rfl⟩ | ⟨a, c, rfl, hc⟩
      all_goals
        go_enter Tryd.func9, Tryd.ntmps9
        go_wp2
        go_ret
        exact ⟨_, rfl, (fun h => nomatch h), rfl⟩
  · rcases h with ⟨rfl, rfl⟩ | ⟨a, c, rfl, hc⟩
    · exact absurd (Nat.zero_le _) h1
    · go_enter Tryd.func9, Tryd.ntmps9
      go_wp2
      go_ret
      exact ⟨_, rfl, (fun h => nomatch h), rfl⟩

/- ---- the copy ---- -/
/-- block B holds n strings, the first k of which are those of ss -/
def strsAt (w : World) (B n : Nat) (ss : List ByteArray) (k : Nat) : Prop := ∀ j, j < n → ∃ x, w.cell? ⟨B, j, none⟩ = some (.string x) ∧ w.frozen? ⟨B, j, none⟩ = false ∧ (j < k → x = ss.getD j ByteArray.empty)
/-- v is a slice of its own that holds ss -/
def OwnAt (w : World) (v : Value) (ss : List ByteArray) : Prop := (v = .slice none 0 0 ∧ ss = []) ∨ ∃ B c, v = .slice (some ⟨B, 0, none⟩) ss.length c ∧ ss.length ≤ c ∧ c ≤ maxLen ∧ B < w.heap.size ∧ ∀ j, j < ss.length → w.cell? ⟨B, j, none⟩ = some (.string (ss.getD j ByteArray.empty))
theorem strsAt.set {w : World} {B n k : Nat} {ss : List ByteArray} (h : strsAt w B n ss k) (x : ByteArray) (hx : x = ss.getD k ByteArray.empty) (hk : k < n) : strsAt (w.setCell ⟨B, k, none⟩ (.string x)) B n ss (k + 1) := by
  intro j hj
  obtain ⟨y, h1, h2, h3⟩ := h j hj
  by_cases e : j = k
  · subst e
    exact ⟨x, World.cell?_setCell_same _ _ _ h1, by rw [World.frozen?_setCell]; exact h2, fun _ => hx⟩
  · exact ⟨y, by rw [World.cell?_setCell_other _ _ _ _ (by intro h; cases h; exact e rfl)]; exact h1, by rw [World.frozen?_setCell]; exact h2, fun h => h3 (by omega)⟩
theorem made_strs (w : World) (n : Nat) (ss : List ByteArray) : strsAt (w.alloc (.cells (madeCells #[.string ByteArray.empty] n) 9)) w.heap.size n ss 0 := by
  intro j hj
  refine ⟨ByteArray.empty, ?_, by simp, fun h => absurd h (Nat.not_lt_zero _)⟩
  rw [World.cell?_alloc_at _ _ _ _ rfl]
  unfold madeCells
  simp [hj, Nat.mod_one]
theorem Tryd.info9 : (Tryd.prog.info? 9).map (fun i => (i.zero, i.size, i.bytes)) = some (some (.string ByteArray.empty), 1, 16) := by kernel_rfl
theorem Tryd.info5 : (Tryd.prog.info? 5).map (fun i => (i.zero, i.size, i.bytes)) = some (some (.int .u8 0), 1, 1) := by kernel_rfl
theorem Tryd.info4 : (Tryd.prog.info? 4).map (fun i => (i.zero, i.size, i.bytes)) = some (some (.bool false), 1, 1) := by kernel_rfl
theorem cell_below {B : Nat} {w w' : World} (h : Below B w w') {a : Addr} {v : Value} (hg : a.block < B) (hc : w.cell? a = some v) : w'.cell? a = some v :=
  (World.cell?_of_block (h.block a.block hg)).trans hc
theorem add_block (a : Addr) (i : Nat) : (a.add i).block = a.block := by unfold Addr.add; split <;> rfl

set_option maxHeartbeats 1000000 in
set_option maxRecDepth 100000 in
theorem clone_any (v : Value) (ss : List ByteArray) (w : World) (h : ArgAt w v ss) (hl : ss.length ≤ 4096) :
    Calls Tryd.prog 10 #[v] w fun e w' => ∃ v', e = .returned v' ∧ OwnAt w' v' ss ∧ Below w.heap.size w w' := by
  have hnil := fun wx a n c => Lib.run_eql_slice_nil (P := Tryd.prog) wx 22 9 a n c 0 0 Tryd.underlying22
  rcases h with ⟨rfl, rfl⟩ | ⟨a, c, rfl, hc⟩
  · go_enter Tryd.func10, Tryd.ntmps10
    go_wp2
    go_ret
    exact ⟨.slice none 0 0, rfl, .inl ⟨rfl, rfl⟩, Below.refl _ _⟩
  · have hmk := fun wx => run_make_row' (P := Tryd.prog) 22 9 (.string ByteArray.empty) 16 Tryd.underlying22 Tryd.info9 rfl .i64 .i64 ss.length (by omega) (by omega) wx
    have hm := made_strs w ss.length ss
    have hb0 : Below w.heap.size w (w.alloc (.cells (madeCells #[.string ByteArray.empty] ss.length) 9)) := (Below.refl _ w).alloc (Nat.le_refl _) _
    have hz0 : w.heap.size < (w.alloc (.cells (madeCells #[.string ByteArray.empty] ss.length) 9)).heap.size := by simp
    go_enter Tryd.func10, Tryd.ntmps10
    go_wp2
    generalize w.alloc (.cells (madeCells #[.string ByteArray.empty] ss.length) 9) = w0 at *
    clear hmk
    go_loopw [4] (fun i wr => ∃ k : Nat, k ≤ ss.length ∧ i = .int .i64 k ∧ strsAt wr w.heap.size ss.length ss k ∧ w.heap.size < wr.heap.size ∧ Below w.heap.size w wr) (fun i _ => ss.length - (intOf i).toNat)
    case atStart => exact ⟨0, Nat.zero_le _, rfl, hm, hz0, hb0⟩
    case round =>
      obtain ⟨k, hk, rfl, hat, hz, hb⟩ := hrel
      clear hm hz0 hb0
      by_cases hlt : k < ss.length
      · have hcell := hc k hlt
        have hblk : (a.add k).block < w.heap.size := World.block_lt_of_cell? _ _ hcell
        replace hcell := cell_below hb hblk hcell
        obtain ⟨y, HY⟩ : ∃ y, Hid (y = ss.getD k ByteArray.empty) := ⟨_, rfl⟩
        rw [← HY.out] at hcell
        obtain ⟨x, hx, hf, _⟩ := hat k hlt
        have HAT : Hid (strsAt wr w.heap.size ss.length ss k) := hat
        clear hat hc
        go_wp2
        go_roundw
        case rel => exact ⟨k + 1, by omega, by go_num, HAT.out.set _ HY.out hlt, by simpa using hz, hb.setCell (Nat.le_refl _) _⟩
        case measure => simp [intOf]; omega
      · obtain rfl : k = ss.length := by omega
        have HAT : Hid (strsAt wr w.heap.size ss.length ss ss.length) := hat
        clear hat hc
        go_wp2
        go_ret
        refine ⟨.slice (some ⟨w.heap.size, 0, none⟩) ss.length ss.length, rfl, .inr ⟨w.heap.size, ss.length, rfl, Nat.le_refl _, by unfold maxLen; omega, hz, fun j hj => ?_⟩, hb⟩
        obtain ⟨x, hx, _, he⟩ := HAT.out j hj
        rw [hx, he hj]

end Go.Proofs.Qxb6601693aDoor
