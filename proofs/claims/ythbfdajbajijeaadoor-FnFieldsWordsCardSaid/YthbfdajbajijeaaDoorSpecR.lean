/- The walks of spec's functions over code points: turned, trimLeft, points, Size, and those that call them. -/
import Derived.Test.YthbfdajbajijeaaDoorFirst
namespace Go.Proofs.YthbfdajbajijeaaDoor
open Go.RowKit

theorem holdsT_not (rs : List Int) (nt : Bool) (r : Int) : holdsT rs (!nt) r = !holdsT rs nt r := by
  unfold holdsT
  split <;> simp

theorem firstC_range (p : Int → Bool) : ∀ (cs : List Ch) (o : Nat), firstC p o cs = -1 ∧ (∀ c ∈ cs, p c.r = false) ∨ ∃ i, ∃ h : i < cs.length, firstC p o cs = ((o + placeOf cs i : Nat) : Int) ∧ (∀ c ∈ cs.take i, p c.r = false) ∧ p cs[i].r = true
  | [], _ => .inl ⟨rfl, by simp⟩
  | c :: cs, o => by
    cases hp : p c.r
    · rcases firstC_range p cs (o + c.bs.length) with ⟨e, hn⟩ | ⟨i, hi, e, hn, hi2⟩
      · refine .inl ⟨by rw [firstC, hp, if_neg (by simp), e], ?_⟩
        intro d hd
        rcases List.mem_cons.1 hd with rfl | hd
        · exact hp
        · exact hn d hd
      · refine .inr ⟨i + 1, by simpa using hi, ?_, ?_, by simpa using hi2⟩
        · rw [firstC, hp, if_neg (by simp), e]
          congr 1
          simp [placeOf, List.take_succ_cons, glue_cons]
          omega
        · intro d hd
          rw [List.take_succ_cons] at hd
          rcases List.mem_cons.1 hd with rfl | hd
          · exact hp
          · exact hn d hd
    · exact .inr ⟨0, by simp, by rw [firstC, hp, if_pos rfl]; simp [placeOf, glue], by simp, by simpa using hp⟩

theorem trimL_none (p : Int → Bool) (cs : List Ch) (h : ∀ c ∈ cs, p c.r = true) : trimL p cs = [] := dropWhile_all h
theorem trimL_at (p : Int → Bool) (cs : List Ch) (j : Nat) (hj : j < cs.length) (h1 : ∀ c ∈ cs.take j, p c.r = true) (h2 : p cs[j].r = false) : trimL p cs = cs.drop j := by
  unfold trimL
  have e : cs = cs.take j ++ cs.drop j := (List.take_append_drop j cs).symm
  have e2 : (cs.take j ++ cs.drop j).dropWhile (fun c => p c.r) = cs.drop j := by
    rw [dropWhile_append_all h1, List.drop_eq_getElem_cons hj, List.dropWhile_cons, if_neg (by simp [h2])]
  rw [← e] at e2
  exact e2

set_option maxRecDepth 100000 in
theorem spec_turned (v : Value) (rs : List Int) (nt : Bool) (w : World) (h : Is w v rs) :
    Calls Tryd.prog 77 #[.agg #[v, .bool nt]] w (RetV (.agg #[v, .bool (!nt)]) w) := by
  obtain ⟨a, c, rfl, _, _, _⟩ := h.raw
  go_enter Tryd.func77, Tryd.ntmps77
  go_wp2_with fail
  (try simp only [Exit.inBlock, Exit.then])
  refine bodyPost_ret (results_cell_row rfl _ _ (w.heap.size + 1) 24 #[.slice a rs.length c, .bool (!nt)] (0, 0) _ rfl (heap_alloc2_new _ _ _) Tryd.underlying24 rfl (by kernel_rfl)) rfl ?_
  exact ⟨rfl, (Ext.alloc _ _).trans (Ext.alloc _ _)⟩
set_option maxRecDepth 100000 in
theorem spec_trimLeft (s : ByteArray) (v : Value) (rs : List Int) (nt : Bool) (w : World) (hs : s.size ≤ 1099511627776) (h : Is w v rs) :
    Calls Tryd.prog 62 #[.string s, .agg #[v, .bool nt]] w (RetV (.string ⟨(glue (trimL (holdsT rs nt) (chunks s.data.toList))).toArray⟩) w) := by
  obtain ⟨a, c, rfl, _, _, _⟩ := h.raw
  have hgl : (glue (chunks s.data.toList)).length = s.size := by rw [glue_chunks]; rfl
  have hf := firstC_range (holdsT rs (!nt)) (chunks s.data.toList) 0
  go_enter Tryd.func62, Tryd.ntmps62
  go_wp2_with (go_at_call 77; refine (spec_turned _ _ _ _ (h.ext (Ext.alloc _ _))).mono ?_)
  rintro _ w1 ⟨rfl, x1⟩
  have X := (Ext.alloc _ _).trans x1
  replace h := h.ext X
  clear x1
  go_wp2_with (go_at_call 76; refine (spec_first s _ _ _ _ hs h).mono ?_)
  rintro _ w2 ⟨rfl, x2⟩
  replace X := X.trans x2
  clear x2
  rcases hf with ⟨e, hn⟩ | ⟨i, hi, e, hn, hp⟩
  · have HR := Lib.hid (trimL_none (holdsT rs nt) (chunks s.data.toList) (fun c hc => by
      have := hn c hc
      rw [holdsT_not] at this
      simpa using this))
    rw [e]
    clear hn e hgl
    go_wp2_with fail
    go_ret
    exact ⟨by rw [HR.out]; rfl, X⟩
  · have hp' : holdsT rs nt (chunks s.data.toList)[i].r = false := by
      rw [holdsT_not] at hp
      simpa using hp
    have hle : placeOf (chunks s.data.toList) i ≤ s.size := by rw [← hgl]; exact placeOf_le _ _
    have HR := Lib.hid (show (⟨(glue (trimL (holdsT rs nt) (chunks s.data.toList))).toArray⟩ : ByteArray) = s.extract (placeOf (chunks s.data.toList) i) s.size by
      rw [trimL_at (holdsT rs nt) (chunks s.data.toList) i hi (fun c hc => by
        have := hn c hc
        rw [holdsT_not] at this
        simpa using this) hp', glue_drop, glue_chunks, ba_drop])
    rw [e, Nat.zero_add]
    clear hn e hgl hp hp'
    go_wp2_with fail
    go_ret
    exact ⟨by rw [HR.out]; rfl, X⟩
theorem info_i32 : (Tryd.prog.info? 21).map (fun i => (i.zero, i.size, i.bytes)) = some (some (.int .i32 0), 1, 4) := by kernel_rfl
/-- The code points. -/
def runesOf (cs : List Ch) : List Int := cs.map fun c => (c.r : Int)
end Go.Proofs.YthbfdajbajijeaaDoor
