/- The walks of spec.first, last, points, trimLeft, trimRight, turned, Size. -/
import Derived.Test.YtdlobdbclgcogaaDoorPts
import Derived.Test.YtdlobdbclgcogaaDoorTest
import Derived.StillTailTactics
namespace Go.Proofs.YtdlobdbclgcogaaDoor
open Go.RowKit

/-- The place of the first code point that satisfies a test, the first standing at o; -1, if there is none. -/
def firstC (p : Int → Bool) : Nat → List Ch → Int
  | _, [] => -1
  | o, c :: cs => if p c.r then o else firstC p (o + c.bs.length) cs

/-- The place of the last one. -/
def lastC (p : Int → Bool) : Nat → List Ch → Int
  | _, [] => -1
  | o, c :: cs => if 0 ≤ lastC p (o + c.bs.length) cs then lastC p (o + c.bs.length) cs else if p c.r then o else -1

theorem firstC_none (p : Int → Bool) : ∀ (cs : List Ch) (o : Nat), (∀ c ∈ cs, p c.r = false) → firstC p o cs = -1
  | [], _, _ => rfl
  | c :: cs, o, h => by
    rw [firstC, h c (List.mem_cons_self ..), if_neg (by simp)]
    exact firstC_none p cs _ (fun d hd => h d (List.mem_cons_of_mem _ hd))

theorem firstC_at (p : Int → Bool) : ∀ (cs : List Ch) (o i : Nat) (h : i < cs.length), (∀ c ∈ cs.take i, p c.r = false) → p cs[i].r = true → firstC p o cs = ((o + placeOf cs i : Nat) : Int)
  | [], _, _, h, _, _ => by simp at h
  | c :: cs, o, 0, _, _, hp => by
    rw [firstC, if_pos (by simpa using hp)]
    simp [placeOf, glue]
  | c :: cs, o, i + 1, h, hn, hp => by
    rw [firstC, hn c (by simp), if_neg (by simp), firstC_at p cs (o + c.bs.length) i (by simpa using h) (fun d hd => hn d (by simp [List.take_succ_cons, hd])) (by simpa using hp)]
    congr 1
    simp [placeOf, List.take_succ_cons, glue_cons]
    omega

theorem lastC_none (p : Int → Bool) : ∀ (cs : List Ch) (o : Nat), (∀ c ∈ cs, p c.r = false) → lastC p o cs = -1
  | [], _, _ => rfl
  | c :: cs, o, h => by
    rw [lastC, lastC_none p cs _ (fun d hd => h d (List.mem_cons_of_mem _ hd)), h c (List.mem_cons_self ..)]
    simp

theorem lastC_at (p : Int → Bool) : ∀ (cs : List Ch) (o i : Nat) (h : i < cs.length), (∀ c ∈ cs.drop (i + 1), p c.r = false) → p cs[i].r = true → lastC p o cs = ((o + placeOf cs i : Nat) : Int)
  | [], _, _, h, _, _ => by simp at h
  | c :: cs, o, 0, _, hn, hp => by
    have hp' : p c.r = true := hp
    rw [lastC, lastC_none p cs _ (by simpa using hn), hp']
    simp [placeOf, glue]
  | c :: cs, o, i + 1, h, hn, hp => by
    rw [lastC, lastC_at p cs (o + c.bs.length) i (by simpa using h) (by simpa using hn) (by simpa using hp), if_pos (by omega)]
    congr 1
    simp [placeOf, List.take_succ_cons, glue_cons]
    omega

theorem take_snoc_all {cs : List Ch} {j : Nat} (hj : j < cs.length) {p : Int → Bool} (h1 : ∀ c ∈ cs.take j, p c.r = false) (h2 : p cs[j].r = false) : ∀ c ∈ cs.take (j + 1), p c.r = false := by
  intro c hc
  rw [List.take_succ_eq_append_getElem hj] at hc
  rcases List.mem_append.1 hc with hc | hc
  · exact h1 c hc
  · rw [List.mem_singleton.1 hc]; exact h2

theorem drop_cons_all {cs : List Ch} {j : Nat} (hj : j < cs.length) {p : Int → Bool} (h1 : ∀ c ∈ cs.drop (j + 1), p c.r = false) (h2 : p cs[j].r = false) : ∀ c ∈ cs.drop j, p c.r = false := by
  intro c hc
  rw [List.drop_eq_getElem_cons hj] at hc
  rcases List.mem_cons.1 hc with rfl | hc
  · exact h2
  · exact h1 c hc

set_option maxRecDepth 100000 in
theorem spec_first (s : ByteArray) (v : Value) (rs : List Int) (nt : Bool) (w : World) (hs : s.size ≤ 1099511627776) (h : Is w v rs) :
    Calls Tryd.prog 93 #[.string s, .agg #[v, .bool nt]] w (RetV (.int .i64 (firstC (holdsT rs nt) 0 (chunks s.data.toList))) w) := by
  obtain ⟨a, c, rfl, _, _, _⟩ := h.raw
  go_enter Tryd.func93, Tryd.ntmps93
  go_wp2_with (go_at_call 69; refine (spec_pieces s _ hs).mono ?_)
  rintro _ w1 ⟨v1, rfl, p1, x1⟩
  have f0 := x1.cell (p := ⟨w.heap.size, 0, none⟩) (v := .slice a rs.length c) (by rw [World.cell?_alloc_mark]; rfl)
  have f1 := x1.cell (p := ⟨w.heap.size, 1, none⟩) (v := .bool nt) (by rw [World.cell?_alloc_mark]; rfl)
  have X := (Ext.alloc _ _).trans x1
  replace h := h.ext X
  clear x1
  have hcl := chunks_length s.data.toList
  have ES : s.data.toList.length = s.size := rfl
  rw [ES] at hcl
  clear ES
  obtain ⟨B, hB⟩ : ∃ B, w.heap.size = B := ⟨_, rfl⟩
  rw [hB] at f0 f1 ⊢
  have HB := Lib.hid hB
  clear hB
  obtain ⟨cs, hcs⟩ : ∃ cs, chunks s.data.toList = cs := ⟨_, rfl⟩
  rw [hcs] at p1 hcl
  have HCS := Lib.hid hcs
  clear hcs
  obtain ⟨hm, a1, c1, rfl, hc1, hc2, hcells⟩ := p1.raw
  unfold maxLen at hm
  have HP := Lib.hid p1
  have HX := Lib.hid X
  have HI := Lib.hid h
  clear p1 X h
  go_wp2_with fail
  go_loopg [6] cs.length (fun k i wr => ∃ j : Nat, j + k = cs.length ∧ i = .int .i64 j ∧ (∀ c ∈ cs.take j, holdsT rs nt c.r = false) ∧ Ext w1 wr)
  case atStart => exact ⟨0, by omega, rfl, by simp, Ext.refl _⟩
  case round =>
    obtain ⟨j, hj, rfl, hn, hx⟩ := hrel
    have HN := Lib.hid hn
    have HJ := Lib.hid hj
    have HX2 := Lib.hid hx
    clear hn
    by_cases hlt : j < cs.length
    · have hg : 0 < gk := by omega
      have hj1 : j + 1 ≤ cs.length := hlt
      obtain ⟨b, o, rfl, q0, q1, q2, q3⟩ := hcells j hlt
      replace f0 := hx.cell f0
      replace f1 := hx.cell f1
      replace q0 := hx.cell q0
      replace q2 := hx.cell q2
      clear hcells q1 q3 hj hx
      have cH := fun W (x : Ext wr W) => spec_holds (.slice a rs.length c) rs nt cs[j].r W (HI.out.ext (HX2.out.trans x))
      go_wp2_with fail
      go_still_tail 6, (by kernel_rfl)
      change wpList _ _ _ _ _ wr.drew
      have xd := Ext.drew wr
      generalize wr.drew = w2 at xd ⊢
      replace f0 := xd.cell f0
      replace f1 := xd.cell f1
      replace q0 := xd.cell q0
      have cS := cH w2 xd
      have HX3 := Lib.hid (HX2.out.trans xd)
      clear cH HX2 xd
      cases hh : holdsT rs nt cs[j].r
      · rw [hh] at cS
        have HH := Lib.hid hh
        clear hh
        go_wp2_with (go_at_call 97; refine cS.mono ?_; rintro _ w3 ⟨rfl, x3⟩)
        go_roundg (gk - 1)
        case measure => omega
        case rel => exact ⟨j + 1, by have := HJ.out; omega, by go_num, take_snoc_all hlt HN.out HH.out, HX3.out.trans x3⟩
      · rw [hh] at cS
        have HH := Lib.hid hh
        clear hh
        go_wp2_with (go_at_call 97; refine cS.mono ?_)
        rintro _ w3 ⟨rfl, x3⟩
        replace q0 := x3.cell q0
        go_wp2_with fail
        go_ret
        exact ⟨by rw [HCS.out, firstC_at _ cs 0 j hlt HN.out HH.out, Nat.zero_add]; rfl, HX.out.trans (HX3.out.trans x3)⟩
    · have hje : j = cs.length := by omega
      clear hj hcells
      go_wp2_with fail
      go_ret
      exact ⟨by rw [HCS.out, firstC_none _ cs 0 (by have := HN.out; rwa [List.take_of_length_le (by omega)] at this)]; rfl, HX.out.trans HX2.out⟩

theorem ba_take (s : ByteArray) (n : Nat) : (⟨(s.data.toList.take n).toArray⟩ : ByteArray) = s.extract 0 n := by
  apply ByteArray.ext
  apply Array.ext'
  rw [Lib.extract_data]
  simp
theorem ba_drop (s : ByteArray) (n : Nat) : (⟨(s.data.toList.drop n).toArray⟩ : ByteArray) = s.extract n s.size := by
  apply ByteArray.ext
  apply Array.ext'
  rw [Lib.extract_data, List.take_of_length_le (by rw [List.length_drop]; exact Nat.le_refl _)]

/-- What is left when the code points that satisfy a test are taken away at the end. -/
def trimR (p : Int → Bool) (cs : List Ch) : List Ch := (cs.reverse.dropWhile fun c => p c.r).reverse
/-- .. at the beginning. -/
def trimL (p : Int → Bool) (cs : List Ch) : List Ch := cs.dropWhile fun c => p c.r

theorem drop_cons_all' {cs : List Ch} {j : Nat} (hj : j < cs.length) {p : Int → Bool} (h1 : ∀ c ∈ cs.drop (j + 1), p c.r = true) (h2 : p cs[j].r = true) : ∀ c ∈ cs.drop j, p c.r = true := by
  intro c hc
  rw [List.drop_eq_getElem_cons hj] at hc
  rcases List.mem_cons.1 hc with rfl | hc
  · exact h2
  · exact h1 c hc

theorem dropWhile_all {α : Type} {p : α → Bool} : ∀ {l : List α}, (∀ x ∈ l, p x = true) → l.dropWhile p = []
  | [], _ => rfl
  | x :: l, h => by rw [List.dropWhile_cons, if_pos (h x (List.mem_cons_self ..))]; exact dropWhile_all fun y hy => h y (List.mem_cons_of_mem _ hy)

theorem dropWhile_append_all {α : Type} {p : α → Bool} : ∀ {l m : List α}, (∀ x ∈ l, p x = true) → (l ++ m).dropWhile p = m.dropWhile p
  | [], _, _ => rfl
  | x :: l, m, h => by rw [List.cons_append, List.dropWhile_cons, if_pos (h x (List.mem_cons_self ..))]; exact dropWhile_append_all fun y hy => h y (List.mem_cons_of_mem _ hy)

theorem trimR_none (p : Int → Bool) (cs : List Ch) (h : ∀ c ∈ cs, p c.r = true) : trimR p cs = [] := by
  unfold trimR
  rw [dropWhile_all (fun c hc => h c (List.mem_reverse.1 hc))]; rfl

theorem trimR_at (p : Int → Bool) (cs : List Ch) (j : Nat) (hj : j < cs.length) (h1 : ∀ c ∈ cs.drop (j + 1), p c.r = true) (h2 : p cs[j].r = false) : trimR p cs = cs.take (j + 1) := by
  unfold trimR
  have e : cs.reverse = (cs.drop (j + 1)).reverse ++ (cs.take (j + 1)).reverse := by rw [← List.reverse_append, List.take_append_drop]
  rw [e, dropWhile_append_all (fun c hc => h1 c (List.mem_reverse.1 hc)), List.take_succ_eq_append_getElem hj, List.reverse_append]
  simp [h2]

theorem place_end (cs : List Ch) (j : Nat) (hj : j < cs.length) : placeOf cs j + cs[j].bs.length = placeOf cs (j + 1) := by
  unfold placeOf
  rw [List.take_succ_eq_append_getElem hj, glue_append, List.length_append, glue_cons, glue_nil, List.append_nil]

theorem placeOf_le (cs : List Ch) (j : Nat) : placeOf cs j ≤ (glue cs).length := by
  have := List.take_append_drop j cs
  have h := congrArg (fun x => (glue x).length) this
  simp only [glue_append, List.length_append] at h
  unfold placeOf
  omega

theorem glue_take (cs : List Ch) (j : Nat) : glue (cs.take j) = (glue cs).take (placeOf cs j) := by
  have := congrArg glue (List.take_append_drop j cs)
  rw [glue_append] at this
  rw [← this]
  unfold placeOf
  rw [List.take_left]

theorem glue_drop (cs : List Ch) (j : Nat) : glue (cs.drop j) = (glue cs).drop (placeOf cs j) := by
  have := congrArg glue (List.take_append_drop j cs)
  rw [glue_append] at this
  rw [← this]
  unfold placeOf
  rw [List.drop_left]

set_option maxRecDepth 100000 in
theorem spec_trimRight (s : ByteArray) (v : Value) (rs : List Int) (nt : Bool) (w : World) (hs : s.size ≤ 1099511627776) (h : Is w v rs) :
    Calls Tryd.prog 78 #[.string s, .agg #[v, .bool nt]] w (RetV (.string ⟨(glue (trimR (holdsT rs nt) (chunks s.data.toList))).toArray⟩) w) := by
  obtain ⟨a, c, rfl, _, _, _⟩ := h.raw
  go_enter Tryd.func78, Tryd.ntmps78
  go_wp2_with (go_at_call 69; refine (spec_pieces s _ hs).mono ?_)
  rintro _ w1 ⟨v1, rfl, p1, x1⟩
  have f0 := x1.cell (p := ⟨w.heap.size, 0, none⟩) (v := .slice a rs.length c) (by rw [World.cell?_alloc_mark]; rfl)
  have f1 := x1.cell (p := ⟨w.heap.size, 1, none⟩) (v := .bool nt) (by rw [World.cell?_alloc_mark]; rfl)
  have X := (Ext.alloc _ _).trans x1
  replace h := h.ext X
  clear x1
  have hcl := chunks_length s.data.toList
  have ES : s.data.toList.length = s.size := rfl
  rw [ES] at hcl
  clear ES
  obtain ⟨B, hB⟩ : ∃ B, w.heap.size = B := ⟨_, rfl⟩
  rw [hB] at f0 f1 ⊢
  have HB := Lib.hid hB
  clear hB
  obtain ⟨cs, hcs⟩ : ∃ cs, chunks s.data.toList = cs := ⟨_, rfl⟩
  rw [hcs] at p1 hcl
  have HCS := Lib.hid hcs
  clear hcs
  obtain ⟨hm, a1, c1, rfl, hc1, hc2, hcells⟩ := p1.raw
  unfold maxLen at hm
  have HP := Lib.hid p1
  have HX := Lib.hid X
  have HI := Lib.hid h
  clear p1 X h
  go_wp2_with fail
  go_loopg [6] cs.length (fun k i wr => k ≤ cs.length ∧ i = .int .i64 ((k : Int) - 1) ∧ (∀ c ∈ cs.drop k, holdsT rs nt c.r = true) ∧ Ext w1 wr)
  case atStart => exact ⟨Nat.le_refl _, by go_num, by simp, Ext.refl _⟩
  case round =>
    obtain ⟨hk, rfl, hn, hx⟩ := hrel
    have HN := Lib.hid hn
    have HX2 := Lib.hid hx
    clear hn
    rcases Nat.eq_zero_or_pos gk with h0 | h0
    · subst h0
      clear hcells
      go_wp2_with fail
      go_ret
      exact ⟨by rw [HCS.out, trimR_none _ cs (by simpa using HN.out)]; rfl, HX.out.trans HX2.out⟩
    · obtain ⟨j, rfl⟩ : ∃ j, gk = j + 1 := ⟨gk - 1, by omega⟩
      have hlt : j < cs.length := hk
      have ej : ((j + 1 : Nat) : Int) - 1 = (j : Int) := by omega
      rw [ej]
      clear ej h0
      obtain ⟨b, o, rfl, q0, q1, q2, q3⟩ := hcells j hlt
      replace f0 := hx.cell f0
      replace f1 := hx.cell f1
      replace q0 := hx.cell q0
      replace q1 := hx.cell q1
      replace q2 := hx.cell q2
      clear hcells q3 hx
      have cH := fun W (x : Ext wr W) => spec_holds (.slice a rs.length c) rs nt cs[j].r W (HI.out.ext (HX2.out.trans x))
      go_wp2_with fail
      go_still_tail 6, (by kernel_rfl)
      change wpList _ _ _ _ _ wr.drew
      have xd := Ext.drew wr
      generalize wr.drew = w2 at xd ⊢
      replace f0 := xd.cell f0
      replace f1 := xd.cell f1
      replace q0 := xd.cell q0
      replace q1 := xd.cell q1
      have cS := cH w2 xd
      have HX3 := Lib.hid (HX2.out.trans xd)
      clear cH HX2 xd
      cases hh : holdsT rs nt cs[j].r
      · rw [hh] at cS
        have HH := Lib.hid hh
        clear hh
        have hpl := place_end cs j hlt
        have hgl : (glue cs).length = s.size := by rw [← HCS.out, glue_chunks]; rfl
        have hple : placeOf cs j + cs[j].bs.length ≤ s.size := by
          rw [hpl, ← hgl]
          exact placeOf_le cs (j + 1)
        have HE := Lib.hid (show (⟨(glue (trimR (holdsT rs nt) cs)).toArray⟩ : ByteArray) = s.extract 0 (placeOf cs j + cs[j].bs.length) by
          rw [trimR_at _ cs j hlt HN.out HH.out, hpl, glue_take, ← HCS.out, glue_chunks, ba_take])
        clear hpl hgl
        go_wp2_with (go_at_call 97; refine cS.mono ?_)
        rintro _ w3 ⟨rfl, x3⟩
        replace q0 := x3.cell q0
        replace q1 := x3.cell q1
        go_wp2_with fail
        refine wp_region_quiet_lit (by kernel_rfl) (by kernel_rfl) ?_
        repeat (go_big_quiet_step (fail))
        refine wpQuiet_nil ?_
        intro _ hw'
        obtain ⟨nq, hw''⟩ := hw'
        subst hw''
        go_wp2_with fail
        go_ret
        exact ⟨by rw [HCS.out, HE.out]; rfl, HX.out.trans (HX3.out.trans (x3.trans (Ext.drewN _ _)))⟩
      · rw [hh] at cS
        have HH := Lib.hid hh
        clear hh
        go_wp2_with (go_at_call 97; refine cS.mono ?_; rintro _ w3 ⟨rfl, x3⟩)
        go_roundg j
        case measure => omega
        case rel => exact ⟨by omega, by go_num, drop_cons_all' hlt HN.out HH.out, HX3.out.trans x3⟩
end Go.Proofs.YtdlobdbclgcogaaDoor
