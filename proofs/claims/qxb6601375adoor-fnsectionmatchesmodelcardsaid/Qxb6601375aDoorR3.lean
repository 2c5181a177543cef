import Derived.Test.Qxb6601375aDoorR2
namespace Go.Proofs.Qxb6601375aDoor
open Go.RowKit Go.Shelf
attribute [local go_sem] Oper.semAt_some

theorem lines_any (s : ByteArray) (w : World) : Calls Tryd.prog 10 #[.string s] w fun e w' => e = .returned (.func (.func 18) #[] #[.pointer (some ⟨w.heap.size, 0, none⟩)]) ∧ w' = w.alloc (.cells #[.string s] 9) := by
  go_enter Tryd.func10, Tryd.ntmps10
  go_wp2
  go_ret
  exact ⟨rfl, rfl⟩
theorem suffix_all (s : ByteArray) (hs : s.size ≤ 1048576) : ∃ t : ByteArray, t.data.toList = bare s.data.toList ∧ t.size ≤ s.size ∧ ∀ w, Calls Tryd.prog 11 #[.string s, .string ⟨#[10]⟩] w fun e w' => e = .returned (.string t) ∧ w' = w := by
  refine ⟨⟨(bare s.data.toList).toArray⟩, rfl, ?_, fun w => Any.strings_TrimSuffix Tryd.lays102 s ⟨#[10]⟩ w (by omega)⟩
  have := (bare_prefix s.data.toList).length_le
  rw [len_size] at this
  show (bare s.data.toList).toArray.size ≤ _
  simpa using this

/-- what the variable 'start' holds when i lines have come -/
def StartIs (L : List (List UInt8)) (h : List UInt8) (i : Nat) (st : Int) : Prop :=
  (st = -1 ∧ ∀ j, j < i → hit L h j = false) ∨ (∃ a, a < i ∧ firstHit L h a ∧ st = (off L (a + 1) : Int) ∧ ∀ j, a < j → j < i → stopB L (lev h) j = false)

/-- between two rounds -/
def SecI (w : World) (s h : ByteArray) (i : Nat) (W : World) : Prop := ∃ st : Int, Boxed W (w.heap.size) 9 (.string s) ∧ Boxed W (w.heap.size + 1) 9 (.string h) ∧ Boxed W (w.heap.size + 1 + 1) 9 (.string ⟨#[]⟩) ∧ Boxed W (w.heap.size + 1 + 1 + 1) 4 (.bool false) ∧ Boxed W (w.heap.size + 1 + 1 + 1 + 1) 3 (.int .i64 (lev h.data.toList)) ∧ Boxed W (w.heap.size + 1 + 1 + 1 + 1 + 1) 3 (.int .i64 st) ∧ Boxed W (w.heap.size + 1 + 1 + 1 + 1 + 1 + 1) 3 (.int .i64 (off (linesL s.data.toList) i)) ∧ Boxed W (w.heap.size + 1 + 1 + 1 + 1 + 1 + 1 + 1) 4 (.bool (openAt (linesL s.data.toList) i)) ∧ Below w.heap.size w W ∧ StartIs (linesL s.data.toList) h.data.toList i st
/-- a round has returned -/
def SecX (w : World) (s h : ByteArray) (_ : Nat) (W : World) : Prop := ∃ r : ByteArray, Boxed W (w.heap.size + 1 + 1) 9 (.string r) ∧ Boxed W (w.heap.size + 1 + 1 + 1) 4 (.bool true) ∧ SecIs (linesL s.data.toList) h.data.toList r.data.toList true ∧ Below w.heap.size w W

theorem SecI_grown (w : World) (s h : ByteArray) (i : Nat) (W W' : World) (row : Option Nat) (hi : SecI w s h i W) (hg : W.grownBy W' row) (hr : ∀ r, row = some r → w.heap.size + 1 + 1 + 1 + 1 + 1 + 1 + 1 + 1 ≤ r) : SecI w s h i W' := by
  obtain ⟨st, h0, h1, h2, h3, h4, h5, h6, h7, hb, hst⟩ := hi
  have ne : ∀ k, k < w.heap.size + 1 + 1 + 1 + 1 + 1 + 1 + 1 + 1 → some k ≠ row := fun k hk e => by have := hr k e.symm; omega
  exact ⟨st, h0.kept hg (ne _ (by omega)), h1.kept hg (ne _ (by omega)), h2.kept hg (ne _ (by omega)), h3.kept hg (ne _ (by omega)), h4.kept hg (ne _ (by omega)), h5.kept hg (ne _ (by omega)), h6.kept hg (ne _ (by omega)), h7.kept hg (ne _ (by omega)), hb.grown hg hb.size (fun k e => by have := hr k e; omega), hst⟩
theorem SecX_grown (w : World) (s h : ByteArray) (i : Nat) (W W' : World) (row : Option Nat) (hi : SecX w s h i W) (hg : W.grownBy W' row) (hr : ∀ r, row = some r → w.heap.size + 1 + 1 + 1 + 1 + 1 + 1 + 1 + 1 ≤ r) : SecX w s h i W' := by
  obtain ⟨r, h2, h3, hs, hb⟩ := hi
  have ne : ∀ k, k < w.heap.size + 1 + 1 + 1 + 1 + 1 + 1 + 1 + 1 → some k ≠ row := fun k hk e => by have := hr k e.symm; omega
  exact ⟨r, h2.kept hg (ne _ (by omega)), h3.kept hg (ne _ (by omega)), hs, hb.grown hg hb.size (fun k e => by have := hr k e; omega)⟩

theorem linesB_get (s : ByteArray) (i : Nat) (x : ByteArray) (h : (linesB s)[i]? = some x) : i < (linesL s.data.toList).length ∧ x.data.toList = (linesL s.data.toList).getD i [] := by
  unfold linesB at h
  rw [List.getElem?_map, Option.map_eq_some_iff] at h
  obtain ⟨y, hy, rfl⟩ := h
  obtain ⟨hlt, rfl⟩ := List.getElem?_eq_some_iff.1 hy
  refine ⟨hlt, ?_⟩
  rw [List.getD_eq_getElem?_getD, hy]
  rfl
theorem prose_hit {L : List (List UInt8)} {i : Nat} (h : prose L i = false) (x : List UInt8) (lv : Nat) : hit L x i = false ∧ stopB L lv i = false := by
  unfold hit stopB
  rw [h]
  exact ⟨rfl, rfl⟩
theorem start_keep {L : List (List UInt8)} {h : List UInt8} {i : Nat} {st : Int} (hs : StartIs L h i st) (h1 : st = -1 → hit L h i = false) (h2 : 0 ≤ st → stopB L (lev h) i = false) : StartIs L h (i + 1) st := by
  rcases hs with ⟨rfl, hn⟩ | ⟨a, ha, hf, rfl, hn⟩
  · refine .inl ⟨rfl, fun j hj => ?_⟩
    by_cases e : j = i
    · rw [e]; exact h1 rfl
    · exact hn j (by omega)
  · refine .inr ⟨a, by omega, hf, rfl, fun j h3 h4 => ?_⟩
    by_cases e : j = i
    · rw [e]; exact h2 (by omega)
    · exact hn j h3 (by omega)
theorem start_hit {L : List (List UInt8)} {h : List UInt8} {i : Nat} (hs : StartIs L h i (-1)) (hi : i < L.length) (h1 : hit L h i = true) : StartIs L h (i + 1) (off L (i + 1)) := by
  rcases hs with ⟨_, hn⟩ | ⟨a, _, _, e, _⟩
  · exact .inr ⟨i, by omega, ⟨hi, h1, hn⟩, rfl, fun j h3 h4 => by omega⟩
  · omega
theorem start_stop {L : List (List UInt8)} {h : List UInt8} {i : Nat} {st : Int} (hs : StartIs L h i st) (h0 : 0 ≤ st) (hi : i < L.length) (h2 : stopB L (lev h) i = true) : SecIs L h ((L.flatten.drop st.toNat).take (off L i - st.toNat)) true ∧ st.toNat ≤ off L i := by
  rcases hs with ⟨rfl, hn⟩ | ⟨a, ha, hf, rfl, hn⟩
  · omega
  · rw [Int.toNat_natCast]
    exact ⟨.inr ⟨rfl, a, hf, .inl ⟨i, ha, hi, h2, fun k h3 h4 => hn k h3 h4, rfl⟩⟩, off_mono L (a + 1) i ha⟩
theorem start_done_none {L : List (List UInt8)} {h : List UInt8} {st : Int} (hs : StartIs L h L.length st) (h0 : st < 0) : SecIs L h [] false := by
  rcases hs with ⟨rfl, hn⟩ | ⟨a, ha, hf, rfl, hn⟩
  · exact .inl ⟨rfl, rfl, hn⟩
  · omega
theorem start_done_some {L : List (List UInt8)} {h : List UInt8} {st : Int} (hs : StartIs L h L.length st) (h0 : 0 ≤ st) : SecIs L h (L.flatten.drop st.toNat) true ∧ st.toNat ≤ L.flatten.length := by
  rcases hs with ⟨rfl, hn⟩ | ⟨a, ha, hf, rfl, hn⟩
  · omega
  · rw [Int.toNat_natCast]
    exact ⟨.inr ⟨rfl, a, hf, .inr ⟨hn, rfl⟩⟩, off_le L (a + 1)⟩
theorem start_ge {L : List (List UInt8)} {h : List UInt8} {i : Nat} {st : Int} (hs : StartIs L h i st) : st = -1 ∨ (0 ≤ st ∧ st.toNat ≤ off L i) := by
  rcases hs with ⟨rfl, hn⟩ | ⟨a, ha, hf, rfl, hn⟩
  · exact .inl rfl
  · exact .inr ⟨by omega, by rw [Int.toNat_natCast]; exact off_mono L (a + 1) i ha⟩

/-- between two rounds, with 'start' told -/
def SecP (w : World) (s h : ByteArray) (i : Nat) (st : Int) (W : World) : Prop := Boxed W (w.heap.size) 9 (.string s) ∧ Boxed W (w.heap.size + 1) 9 (.string h) ∧ Boxed W (w.heap.size + 1 + 1) 9 (.string ⟨#[]⟩) ∧ Boxed W (w.heap.size + 1 + 1 + 1) 4 (.bool false) ∧ Boxed W (w.heap.size + 1 + 1 + 1 + 1) 3 (.int .i64 (lev h.data.toList)) ∧ Boxed W (w.heap.size + 1 + 1 + 1 + 1 + 1) 3 (.int .i64 st) ∧ Boxed W (w.heap.size + 1 + 1 + 1 + 1 + 1 + 1) 3 (.int .i64 (off (linesL s.data.toList) i)) ∧ Boxed W (w.heap.size + 1 + 1 + 1 + 1 + 1 + 1 + 1) 4 (.bool (openAt (linesL s.data.toList) i)) ∧ Below w.heap.size w W

theorem heap_other (W : World) (b k : Nat) (v : Value) (h : k ≠ b) : (W.setCell ⟨b, 0, none⟩ v).heap[k]? = W.heap[k]? := Below.heap_setCell W _ v k h

/-- the round goes on: the fence and the offset are stored -/
theorem sec_nextA {w : World} {s h : ByteArray} {i : Nat} {st : Int} {W : World} (hP : SecP w s h i st W) (b : Bool) (hbo : openAt (linesL s.data.toList) (i + 1) = b) (hst : StartIs (linesL s.data.toList) h.data.toList (i + 1) st) {a : Act} :
    boxPost (w.heap.size + 1 + 1 + 1 + 1 + 1 + 1 + 1 + 1) (SecI w s h) (SecX w s h) i W .normal a ((W.setCell ⟨w.heap.size + 1 + 1 + 1 + 1 + 1 + 1 + 1, 0, none⟩ (.bool b)).setCell ⟨w.heap.size + 1 + 1 + 1 + 1 + 1 + 1, 0, none⟩ (.int .i64 (off (linesL s.data.toList) (i + 1)))) := by
  obtain ⟨h0, h1, h2, h3, h4, h5, h6, h7, hb⟩ := hP
  subst hbo
  refine ⟨(KeepsOthers.setCell _ _ _).trans (KeepsOthers.setCell _ _ _), ?_, st, (h0.other (by omega) _).other (by omega) _, (h1.other (by omega) _).other (by omega) _, (h2.other (by omega) _).other (by omega) _, (h3.other (by omega) _).other (by omega) _, (h4.other (by omega) _).other (by omega) _, (h5.other (by omega) _).other (by omega) _, (h6.other (by omega) _).set _, (h7.set _).other (by omega) _, (hb.setCell (p := ⟨w.heap.size + 1 + 1 + 1 + 1 + 1 + 1 + 1, 0, none⟩) (show w.heap.size ≤ w.heap.size + 1 + 1 + 1 + 1 + 1 + 1 + 1 by omega) _).setCell (p := ⟨w.heap.size + 1 + 1 + 1 + 1 + 1 + 1, 0, none⟩) (show w.heap.size ≤ w.heap.size + 1 + 1 + 1 + 1 + 1 + 1 by omega) _, hst⟩
  rw [heap_other _ _ _ _ (by omega), heap_other _ _ _ _ (by omega)]
/-- the round goes on: the heading has been found -/
theorem sec_nextB {w : World} {s h : ByteArray} {i : Nat} {st st' : Int} {W : World} (hP : SecP w s h i st W) (b : Bool) (hbo : openAt (linesL s.data.toList) (i + 1) = b) (hst : StartIs (linesL s.data.toList) h.data.toList (i + 1) st') {a : Act} :
    boxPost (w.heap.size + 1 + 1 + 1 + 1 + 1 + 1 + 1 + 1) (SecI w s h) (SecX w s h) i W .normal a (((W.setCell ⟨w.heap.size + 1 + 1 + 1 + 1 + 1 + 1 + 1, 0, none⟩ (.bool b)).setCell ⟨w.heap.size + 1 + 1 + 1 + 1 + 1, 0, none⟩ (.int .i64 st')).setCell ⟨w.heap.size + 1 + 1 + 1 + 1 + 1 + 1, 0, none⟩ (.int .i64 (off (linesL s.data.toList) (i + 1)))) := by
  obtain ⟨h0, h1, h2, h3, h4, h5, h6, h7, hb⟩ := hP
  subst hbo
  refine ⟨((KeepsOthers.setCell _ _ _).trans (KeepsOthers.setCell _ _ _)).trans (KeepsOthers.setCell _ _ _), ?_, st', ((h0.other (by omega) _).other (by omega) _).other (by omega) _, ((h1.other (by omega) _).other (by omega) _).other (by omega) _, ((h2.other (by omega) _).other (by omega) _).other (by omega) _, ((h3.other (by omega) _).other (by omega) _).other (by omega) _, ((h4.other (by omega) _).other (by omega) _).other (by omega) _, ((h5.other (by omega) _).set _).other (by omega) _, ((h6.other (by omega) _).other (by omega) _).set _, ((h7.set _).other (by omega) _).other (by omega) _, ((hb.setCell (p := ⟨w.heap.size + 1 + 1 + 1 + 1 + 1 + 1 + 1, 0, none⟩) (show w.heap.size ≤ w.heap.size + 1 + 1 + 1 + 1 + 1 + 1 + 1 by omega) _).setCell (p := ⟨w.heap.size + 1 + 1 + 1 + 1 + 1, 0, none⟩) (show w.heap.size ≤ w.heap.size + 1 + 1 + 1 + 1 + 1 by omega) _).setCell (p := ⟨w.heap.size + 1 + 1 + 1 + 1 + 1 + 1, 0, none⟩) (show w.heap.size ≤ w.heap.size + 1 + 1 + 1 + 1 + 1 + 1 by omega) _, hst⟩
  rw [heap_other _ _ _ _ (by omega), heap_other _ _ _ _ (by omega), heap_other _ _ _ _ (by omega)]
theorem sec_drew {w : World} {s h : ByteArray} {i : Nat} {W W' : World} {a : Act} (hp : boxPost (w.heap.size + 1 + 1 + 1 + 1 + 1 + 1 + 1 + 1) (SecI w s h) (SecX w s h) i W .normal a W') : boxPost (w.heap.size + 1 + 1 + 1 + 1 + 1 + 1 + 1 + 1) (SecI w s h) (SecX w s h) i W .normal a W'.drew := by
  obtain ⟨hk, hB, st, h0, h1, h2, h3, h4, h5, h6, h7, hb, hst⟩ := hp
  exact ⟨hk.trans (KeepsOthers.drew _), hB, st, h0, h1, h2, h3, h4, h5, h6, h7, hb.drew, hst⟩
/-- the round returns -/
theorem sec_ret {w : World} {s h r : ByteArray} {i : Nat} {st : Int} {W : World} (hP : SecP w s h i st W) (b : Bool) (hr : SecIs (linesL s.data.toList) h.data.toList r.data.toList true) {a : Act} :
    boxPost (w.heap.size + 1 + 1 + 1 + 1 + 1 + 1 + 1 + 1) (SecI w s h) (SecX w s h) i W .ret a (((W.setCell ⟨w.heap.size + 1 + 1 + 1 + 1 + 1 + 1 + 1, 0, none⟩ (.bool b)).setCell ⟨w.heap.size + 1 + 1, 0, none⟩ (.string r)).setCell ⟨w.heap.size + 1 + 1 + 1, 0, none⟩ (.bool true)).drew := by
  obtain ⟨h0, h1, h2, h3, h4, h5, h6, h7, hb⟩ := hP
  exact ⟨(((KeepsOthers.setCell _ _ _).trans (KeepsOthers.setCell _ _ _)).trans (KeepsOthers.setCell _ _ _)).trans (KeepsOthers.drew _), r, ((h2.other (by omega) _).set _).other (by omega) _, ((h3.other (by omega) _).other (by omega) _).set _, hr, (((hb.setCell (p := ⟨w.heap.size + 1 + 1 + 1 + 1 + 1 + 1 + 1, 0, none⟩) (show w.heap.size ≤ w.heap.size + 1 + 1 + 1 + 1 + 1 + 1 + 1 by omega) _).setCell (p := ⟨w.heap.size + 1 + 1, 0, none⟩) (show w.heap.size ≤ w.heap.size + 1 + 1 by omega) _).setCell (p := ⟨w.heap.size + 1 + 1 + 1, 0, none⟩) (show w.heap.size ≤ w.heap.size + 1 + 1 + 1 by omega) _).drew⟩
theorem done_cells {w W : World} {D : Nat} {v2 v3 : Value} (r : ByteArray) (b : Bool) (h2 : Boxed W (w.heap.size + 1 + 1) 9 (v2)) (h3 : Boxed W (w.heap.size + 1 + 1 + 1) 4 (v3)) (hb : Below w.heap.size w W) (hK : W.heap[D]? = some (.deferred (some []))) (hD : w.heap.size ≤ D) :
    (((W.setCell ⟨w.heap.size + 1 + 1, 0, none⟩ (.string r)).setCell ⟨w.heap.size + 1 + 1 + 1, 0, none⟩ (.bool b)).putObj D (.deferred none)).cell? ⟨w.heap.size + 1 + 1, 0, none⟩ = some (.string r) ∧
    (((W.setCell ⟨w.heap.size + 1 + 1, 0, none⟩ (.string r)).setCell ⟨w.heap.size + 1 + 1 + 1, 0, none⟩ (.bool b)).putObj D (.deferred none)).cell? ⟨w.heap.size + 1 + 1 + 1, 0, none⟩ = some (.bool b) ∧
    ((W.setCell ⟨w.heap.size + 1 + 1, 0, none⟩ (.string r)).setCell ⟨w.heap.size + 1 + 1 + 1, 0, none⟩ (.bool b)).heap[D]? = some (.deferred (some [])) ∧
    Below w.heap.size w (((W.setCell ⟨w.heap.size + 1 + 1, 0, none⟩ (.string r)).setCell ⟨w.heap.size + 1 + 1 + 1, 0, none⟩ (.bool b)).putObj D (.deferred none)) := by
  have hK' := ((KeepsOthers.setCell W ⟨w.heap.size + 1 + 1, 0, none⟩ (.string r)).trans (KeepsOthers.setCell _ ⟨w.heap.size + 1 + 1 + 1, 0, none⟩ (.bool b))).same D _ hK rfl
  have k2 := ((h2.set (.string r)).other (B' := w.heap.size + 1 + 1 + 1) (by omega) (.bool b)).cell
  have k3 := ((h3.other (B' := w.heap.size + 1 + 1) (by omega) (.string r)).set (.bool b)).cell
  have hb' := (hb.setCell (p := ⟨w.heap.size + 1 + 1, 0, none⟩) (show w.heap.size ≤ w.heap.size + 1 + 1 by omega) (.string r)).setCell (p := ⟨w.heap.size + 1 + 1 + 1, 0, none⟩) (show w.heap.size ≤ w.heap.size + 1 + 1 + 1 by omega) (.bool b)
  exact ⟨cell_kept k2 (grownBy_putObj' _ D (.deferred none)) (fun r e => by cases e; exact ⟨_, hK', rfl⟩), cell_kept k3 (grownBy_putObj' _ D (.deferred none)) (fun r e => by cases e; exact ⟨_, hK', rfl⟩), hK', hb'.trans (belowK_b (w := w) (Nat.le_refl _) _ D _ _ hD hK' rfl rfl)⟩
theorem boxed_new (W : World) (B : Nat) (t : TypeId) (v : Value) (hB : B = W.heap.size) : Boxed (W.alloc (.cells #[v] t)) B t v := by subst hB; exact Boxed.new W t v
theorem sec_start (w : World) (s h : ByteArray) : SecI w s h 0 (((((((((w.alloc (.cells #[.string s] 9)).alloc (.cells #[.string h] 9)).alloc (.cells #[.string ⟨#[]⟩] 9)).alloc (.cells #[.bool false] 4)).alloc (.cells #[.int .i64 (lev h.data.toList)] 3)).alloc (.cells #[.int .i64 (-1)] 3)).alloc (.cells #[.int .i64 0] 3)).alloc (.cells #[.bool false] 4)).alloc (.cells #[.string s] 9)) :=
  ⟨-1, (((((((((boxed_new _ _ _ _ (by simp)).alloc _).alloc _).alloc _).alloc _).alloc _).alloc _).alloc _).alloc _), ((((((((boxed_new _ _ _ _ (by simp)).alloc _).alloc _).alloc _).alloc _).alloc _).alloc _).alloc _), (((((((boxed_new _ _ _ _ (by simp)).alloc _).alloc _).alloc _).alloc _).alloc _).alloc _), ((((((boxed_new _ _ _ _ (by simp)).alloc _).alloc _).alloc _).alloc _).alloc _), (((((boxed_new _ _ _ _ (by simp)).alloc _).alloc _).alloc _).alloc _), ((((boxed_new _ _ _ _ (by simp)).alloc _).alloc _).alloc _), (((boxed_new _ _ _ _ (by simp)).alloc _).alloc _), ((boxed_new _ _ _ _ (by simp)).alloc _), ((((((((((Below.refl _ w).alloc (Nat.le_refl _) _).alloc (by simp only [World.size_alloc]; omega) _).alloc (by simp only [World.size_alloc]; omega) _).alloc (by simp only [World.size_alloc]; omega) _).alloc (by simp only [World.size_alloc]; omega) _).alloc (by simp only [World.size_alloc]; omega) _).alloc (by simp only [World.size_alloc]; omega) _).alloc (by simp only [World.size_alloc]; omega) _).alloc (by simp only [World.size_alloc]; omega) _), .inl ⟨rfl, fun j hj => absurd hj (Nat.not_lt_zero _)⟩⟩

/-- what Section leaves -/
def SecPost (w : World) (s h : ByteArray) (e : Ending) (w' : World) : Prop := ∃ (r : ByteArray) (b : Bool), e = .returned (.tuple #[.string r, .bool b]) ∧ SecIs (linesL s.data.toList) h.data.toList r.data.toList b ∧ Below w.heap.size w w'

set_option maxHeartbeats 2000000 in
theorem section_any (s h : ByteArray) (w : World) (hs : s.size + h.size ≤ 1048576) :
    Calls Tryd.prog 6 #[.string s, .string h] w (SecPost w s h) := by
  refine (callsIn_wide (n := 6)).1 ?_
  have hh : h.size ≤ 1048576 := by omega
  have h9 : Fence.wide.fn 9 := trivial
  have h10 : Fence.wide.fn 10 := trivial
  have h18 : Fence.wide.fn 18 := trivial
  refine callsIn_of_wp_marks Tryd.func6 rfl trivial ?_ rfl
  simp only [Tryd.ntmps6, List.size_toArray, List.length_cons, List.length_nil, Nat.reduceAdd, Nat.reduceSub, Array.replicate_succ, Array.replicate_zero, List.push_toArray, List.append_toArray, List.nil_append, List.cons_append]
  gi_wp2_with (first | (gi_at_call 9; refine (callsIn_wide.2 (heading_any _ _ hh)).mono ?_; rintro e w1 ⟨rfl, hw1⟩; subst hw1) | (gi_at_call 10; refine (callsIn_wide.2 (lines_any _ _)).mono ?_; rintro e w2 ⟨rfl, hw2⟩; subst hw2))
  have hI0 := sec_start w s h
  generalize hW0 : (((((((((w.alloc (.cells #[.string s] 9)).alloc (.cells #[.string h] 9)).alloc (.cells #[.string ⟨#[]⟩] 9)).alloc (.cells #[.bool false] 4)).alloc (.cells #[.int .i64 (lev h.data.toList)] 3)).alloc (.cells #[.int .i64 (-1)] 3)).alloc (.cells #[.int .i64 0] 3)).alloc (.cells #[.bool false] 4)).alloc (.cells #[.string s] 9)) = W0 at *
  have hz0 : W0.heap.size = w.heap.size + 1 + 1 + 1 + 1 + 1 + 1 + 1 + 1 + 1 := by rw [← hW0]; simp
  have hcs : Boxed W0 (w.heap.size + 1 + 1 + 1 + 1 + 1 + 1 + 1 + 1) 9 (.string s) := by rw [← hW0]; exact (boxed_new _ _ _ _ (by simp))
  refine rangeFunc_box rfl (by omega) (gf := 18) (lb := #[.pointer (some ⟨w.heap.size + 1 + 1 + 1 + 1 + 1 + 1 + 1 + 1, 0, none⟩)]) rfl trivial (enters_of Tryd.func18 (by kernel_rfl) rfl)
    (B := w.heap.size + 1 + 1 + 1 + 1 + 1 + 1 + 1 + 1) (by rw [hz0]; omega) (lines_seq 5 _ s W0 (by omega) (by omega) (by rw [hz0]; omega) hcs.cell hcs.frozen) (fun _ => rfl) (SecI w s h) (SecX w s h)
    (fun i A B row hi hg hr => SecI_grown w s h i A B row hi hg (fun r e => by have := hr r e; omega))
    (fun i A B row hi hg hr => SecI_grown w s h i A B row hi hg (fun r e => by have := (hr r e).1; omega))
    (fun i A B row hi hg hr => SecX_grown w s h i A B row hi hg (fun r e => by have := (hr r e).1; omega)) hI0
    (fun x => { tmps := #[.string s, .string h, .pointer (some ⟨w.heap.size, 0, none⟩), .pointer (some ⟨w.heap.size + 1, 0, none⟩), .pointer (some ⟨w.heap.size + 1 + 1, 0, none⟩), .pointer (some ⟨w.heap.size + 1 + 1 + 1, 0, none⟩), .pointer (some ⟨w.heap.size + 1 + 1 + 1 + 1, 0, none⟩), .pointer (some ⟨w.heap.size + 1 + 1 + 1 + 1 + 1, 0, none⟩), .pointer (some ⟨w.heap.size + 1 + 1 + 1 + 1 + 1 + 1, 0, none⟩), .pointer (some ⟨w.heap.size + 1 + 1 + 1 + 1 + 1 + 1 + 1, 0, none⟩), .string x, undef, undef, undef, .string h, .int .i64 (lev h.data.toList), .string s, .func (.func 18) #[] #[.pointer (some ⟨w.heap.size + 1 + 1 + 1 + 1 + 1 + 1 + 1 + 1, 0, none⟩)], .string x, undef, undef, undef, undef, undef, undef, undef, undef, undef, undef, undef, undef, undef, undef, undef, undef, undef, undef, undef, undef, undef, undef, undef, undef, undef, undef, undef, undef, undef, undef, undef, undef, undef, undef, undef, undef, undef, undef, undef, undef, undef, undef, undef, undef, undef, undef, undef, undef, undef, undef, undef, undef, undef, undef, undef, undef, undef], defers := [] }) ?assign ?body ?done ?stop
  case assign =>
    intro l x W K hK
    gi_wp2
    exact hK
  case body =>
    rintro l i x W ⟨st, h0, h1, h2, h3, h4, h5, h6, h7, hb, hst⟩ hx
    obtain ⟨hiL, hxd⟩ := linesB_get s i x hx
    have hoff : off (linesL s.data.toList) (i + 1) = off (linesL s.data.toList) i + x.size := by rw [off_succ _ _ hiL, ← hxd, len_size]
    have hoffle : off (linesL s.data.toList) (i + 1) ≤ s.size := by have := off_le (linesL s.data.toList) (i + 1); rwa [linesL_flatten, len_size] at this
    obtain ⟨t, ht, hts, hcon⟩ := suffix_all x (by omega)
    have HT : Hid (t.data.toList = line (linesL s.data.toList) i) := by show _ = _; rw [ht, hxd]; rfl
    have hfen : ∀ wx, Calls Tryd.prog 12 #[.string t, .bool (openAt (linesL s.data.toList) i)] wx fun e w' => e = .returned (.bool (openAt (linesL s.data.toList) (i + 1))) ∧ w' = wx := fun wx => by
      have := fenced_any t (openAt (linesL s.data.toList) i) wx
      rw [HT.out] at this
      exact this
    have HPR : Hid (prose (linesL s.data.toList) i = (!openAt (linesL s.data.toList) i && !openAt (linesL s.data.toList) (i + 1))) := rfl
    have ho1 : ((off (linesL s.data.toList) i : Int) + x.size) = (off (linesL s.data.toList) (i + 1) : Int) := by omega
    have bo : off (linesL s.data.toList) (i + 1) ≤ 1048576 := by omega
    have h11 : Fence.wide.fn 11 := trivial
    have mixed : Tryd.prog.follows .mixedOrders = true := by kernel_rfl
    have h12 : Fence.wide.fn 12 := trivial
    have c0 := h0.cell; have c1 := h1.cell; have c2 := h2.cell; have c3 := h3.cell; have c4 := h4.cell; have c5 := h5.cell; have c6 := h6.cell; have c7 := h7.cell
    have f2 := h2.frozen; have f3 := h3.frozen; have f5 := h5.frozen; have f6 := h6.frozen; have f7 := h7.frozen
    clear hx ht hxd hoff hoffle
    have hP : SecP w s h i st W := ⟨h0, h1, h2, h3, h4, h5, h6, h7, hb⟩
    have hge := start_ge hst
    clear h0 h1 h2 h3 h4 h5 h6 h7 hb
    have HST : Hid (StartIs (linesL s.data.toList) h.data.toList i st) := hst
    clear hst hW0 hI0 hcs
    cases ho : openAt (linesL s.data.toList) i
    · cases ho2 : openAt (linesL s.data.toList) (i + 1)
      · rw [ho] at c7 hfen
        rw [ho2] at hfen
        rw [ho, ho2] at HPR
        have h9b : Fence.wide.fn 9 := trivial
        rcases hge with rfl | ⟨hge, hle⟩
        · -- no heading yet
          by_cases hq : t.data.toList = h.data.toList
          · have hqt : (t.toList == h.toList) = true := by rw [Lib.toList_data, Lib.toList_data]; simpa using hq
            have HH : Hid (hit (linesL s.data.toList) h.data.toList i = true) := by
              show _ = _
              unfold hit
              rw [HPR.out, ← HT.out, hq]
              simp
            clear hq
            gi_wp2_with (first | (gi_at_call 11; refine (CallsIn.inRound l (callsIn_wide.2 (hcon _))).mono ?_; rintro e W ⟨rfl, rfl⟩) | (gi_at_call 12; refine (CallsIn.inRound l (callsIn_wide.2 (hfen _))).mono ?_; rintro e W ⟨rfl, rfl⟩))
            exact sec_nextB hP false ho2 (start_hit HST.out hiL HH.out)
          · have hqt : (t.toList == h.toList) = false := by rw [Lib.toList_data, Lib.toList_data]; simpa using hq
            have HH : Hid (hit (linesL s.data.toList) h.data.toList i = false) := by
              show _ = _
              unfold hit
              rw [← HT.out, beq_eq_false_iff_ne.2 hq, Bool.and_false]
            clear hq
            gi_wp2_with (first | (gi_at_call 11; refine (CallsIn.inRound l (callsIn_wide.2 (hcon _))).mono ?_; rintro e W ⟨rfl, rfl⟩) | (gi_at_call 12; refine (CallsIn.inRound l (callsIn_wide.2 (hfen _))).mono ?_; rintro e W ⟨rfl, rfl⟩))
            gi_region_with_o (fail)
            all_goals gi_wp2
            all_goals exact sec_drew (sec_nextA hP false ho2 (start_keep HST.out (fun _ => HH.out) (fun e => by omega)))
        · have hlev : ∀ wx, Calls Tryd.prog 9 #[.string t] wx fun e w' => e = .returned (.int .i64 (lev t.data.toList)) ∧ w' = wx := fun wx => heading_any t wx (by omega)
          have HLV : Hid (lev (line (linesL s.data.toList) i) = lev t.data.toList) := by show _ = _; rw [HT.out]
          have HSB : Hid (stopB (linesL s.data.toList) (lev h.data.toList) i = (decide (0 < lev t.data.toList) && decide (lev t.data.toList ≤ lev h.data.toList))) := by
            show _ = _
            unfold stopB
            rw [HPR.out, HLV.out]
            rfl
          generalize lev t.data.toList = lv at *
          by_cases hv : 0 < lv
          · by_cases hv2 : lv ≤ lev h.data.toList
            · obtain ⟨m, rfl⟩ := Int.eq_ofNat_of_zero_le hge
              rw [Int.toNat_natCast] at hle
              obtain ⟨hsec, _⟩ := start_stop HST.out hge hiL (by rw [HSB.out]; simp [hv, hv2])
              have HSEC : Hid (SecIs (linesL s.data.toList) h.data.toList (s.extract m (off (linesL s.data.toList) i)).data.toList true) := by
                show SecIs _ _ _ _
                rw [Lib.extract_data]
                rw [linesL_flatten, Int.toNat_natCast] at hsec
                exact hsec
              clear hsec
              have hof : off (linesL s.data.toList) i ≤ s.size := by have := off_le (linesL s.data.toList) i; rwa [linesL_flatten, len_size] at this
              gi_wp2_with (first | (gi_at_call 11; refine (CallsIn.inRound l (callsIn_wide.2 (hcon _))).mono ?_; rintro e W ⟨rfl, rfl⟩) | (gi_at_call 12; refine (CallsIn.inRound l (callsIn_wide.2 (hfen _))).mono ?_; rintro e W ⟨rfl, rfl⟩))
              gi_region_with_o (gi_at_call 9; refine (CallsIn.inRound l (callsIn_wide.2 (hlev _))).mono ?_; rintro e W ⟨rfl, rfl⟩)
              all_goals gi_wp2
              all_goals exact sec_ret hP false HSEC.out
            · gi_wp2_with (first | (gi_at_call 11; refine (CallsIn.inRound l (callsIn_wide.2 (hcon _))).mono ?_; rintro e W ⟨rfl, rfl⟩) | (gi_at_call 12; refine (CallsIn.inRound l (callsIn_wide.2 (hfen _))).mono ?_; rintro e W ⟨rfl, rfl⟩))
              gi_region_with_o (gi_at_call 9; refine (CallsIn.inRound l (callsIn_wide.2 (hlev _))).mono ?_; rintro e W ⟨rfl, rfl⟩)
              all_goals gi_wp2
              all_goals exact sec_drew (sec_nextA hP false ho2 (start_keep HST.out (fun e => by omega) (fun _ => by rw [HSB.out]; simp [hv2])))
          · gi_wp2_with (first | (gi_at_call 11; refine (CallsIn.inRound l (callsIn_wide.2 (hcon _))).mono ?_; rintro e W ⟨rfl, rfl⟩) | (gi_at_call 12; refine (CallsIn.inRound l (callsIn_wide.2 (hfen _))).mono ?_; rintro e W ⟨rfl, rfl⟩))
            gi_region_with_o (gi_at_call 9; refine (CallsIn.inRound l (callsIn_wide.2 (hlev _))).mono ?_; rintro e W ⟨rfl, rfl⟩)
            all_goals gi_wp2
            all_goals exact sec_drew (sec_nextA hP false ho2 (start_keep HST.out (fun e => by omega) (fun _ => by rw [HSB.out]; simp [hv])))
      · rw [ho] at c7 hfen
        rw [ho2] at hfen
        rw [ho, ho2] at HPR
        gi_wp2_with (first | (gi_at_call 11; refine (CallsIn.inRound l (callsIn_wide.2 (hcon _))).mono ?_; rintro e W ⟨rfl, rfl⟩) | (gi_at_call 12; refine (CallsIn.inRound l (callsIn_wide.2 (hfen _))).mono ?_; rintro e W ⟨rfl, rfl⟩))
        gi_region_with_o (fail)
        all_goals gi_wp2
        all_goals exact sec_drew (sec_nextA hP true ho2 (start_keep HST.out (fun _ => (prose_hit HPR.out _ 0).1) (fun _ => (prose_hit HPR.out [] _).2)))
    · rw [ho] at c7 hfen HPR
      gi_wp2_with (first | (gi_at_call 11; refine (CallsIn.inRound l (callsIn_wide.2 (hcon _))).mono ?_; rintro e W ⟨rfl, rfl⟩) | (gi_at_call 12; refine (CallsIn.inRound l (callsIn_wide.2 (hfen _))).mono ?_; rintro e W ⟨rfl, rfl⟩))
      gi_region_with_o (fail)
      all_goals gi_wp2
      all_goals exact sec_drew (sec_nextA hP _ rfl (start_keep HST.out (fun _ => (prose_hit HPR.out _ 0).1) (fun _ => (prose_hit HPR.out [] _).2)))
  case done =>
    rintro D W hD ⟨st, h0, h1, h2, h3, h4, h5, h6, h7, hb, hst⟩ hK
    have hlen : (linesB s).length = (linesL s.data.toList).length := by unfold linesB; rw [List.length_map]
    rw [hlen] at hst
    have c0 := h0.cell; have c1 := h1.cell; have c2 := h2.cell; have c3 := h3.cell; have c4 := h4.cell; have c5 := h5.cell
    have f2 := h2.frozen; have f3 := h3.frozen
    clear hlen h0 h1 h4 h5 h6 h7 hI0 hcs
    by_cases hneg : st < 0
    · have HSEC : Hid (SecIs (linesL s.data.toList) h.data.toList [] false) := start_done_none hst hneg
      clear hst
      gi_wp2
      obtain ⟨q2, q3, hK', hB'⟩ := done_cells ⟨#[]⟩ false h2 h3 hb hK (by omega)
      refine ⟨by simp, .inl ⟨_, _, rfl, run_takeDeferred hK', ?_⟩⟩
      exact ⟨.tuple #[.string ⟨#[]⟩, .bool false], by simp [results, Tryd.results6, go_sem, q2, q3], ⟨#[]⟩, false, rfl, HSEC.out, hB'⟩
    · obtain ⟨m, rfl⟩ := Int.eq_ofNat_of_zero_le (show 0 ≤ st by omega)
      obtain ⟨hsec, hle⟩ := start_done_some hst (by omega)
      rw [Int.toNat_natCast, linesL_flatten] at hsec hle
      rw [len_size] at hle
      have HSEC : Hid (SecIs (linesL s.data.toList) h.data.toList (s.extract m s.size).data.toList true) := by
        show SecIs _ _ _ _
        rw [Lib.extract_to_end]
        exact hsec
      clear hst hsec
      gi_wp2
      obtain ⟨q2, q3, hK', hB'⟩ := done_cells (s.extract m s.size) true h2 h3 hb hK (by omega)
      refine ⟨by simp, .inl ⟨_, _, rfl, run_takeDeferred hK', ?_⟩⟩
      exact ⟨.tuple #[.string (s.extract m s.size), .bool true], by simp [results, Tryd.results6, go_sem, q2, q3], s.extract m s.size, true, rfl, HSEC.out, hB'⟩
  case stop =>
    rintro D i W hD hlt ⟨r, h2, h3, hsec, hb⟩ hK
    have c2 := h2.cell; have c3 := h3.cell
    gi_wp2
    refine ⟨by simp, .inl ⟨_, _, rfl, run_takeDeferred hK, ?_⟩⟩
    have q2 := cell_kept c2 (grownBy_putObj' W D (.deferred none)) (fun r e => by cases e; exact ⟨_, hK, rfl⟩)
    have q3 := cell_kept c3 (grownBy_putObj' W D (.deferred none)) (fun r e => by cases e; exact ⟨_, hK, rfl⟩)
    refine ⟨.tuple #[.string r, .bool true], by simp [results, Tryd.results6, go_sem, q2, q3], r, true, rfl, hsec, ?_⟩
    exact hb.trans (belowK_b (w := w) (Nat.le_refl _) W D _ _ (by omega) hK rfl rfl)
end Go.Proofs.Qxb6601375aDoor
