/- The library's decoders, by the shelf's contracts, said of a slice of bytes. -/
import Derived.Test.YtiahholgpbjjfaaDoorRunesB
import Derived.Test.YtiahholgpbjjfaaDoorSpecR
import Derived.Test.YtiahholgpbjjfaaDoorBytesA
import Derived.Shelf.Spec.DecodeLastRune
import Derived.Test.YtiahholgpbjjfaaDoorLay
namespace Go.Proofs.YtiahholgpbjjfaaDoor
open Go.RowKit

/-- The decoder's tables. -/
def Tabs (w : World) : Prop := Lib.Utf8Tabs 4 5 w
theorem Tabs.ext {w w' : World} (h : Tabs w) (x : Ext w w') : Tabs w' := ⟨fun c hc => x.cell (h.1 c hc), fun i hi => ⟨x.cell (h.2 i hi).1, x.cell (h.2 i hi).2⟩⟩

theorem bs_cells {w : World} {v : Value} {l : List UInt8} (h : Bs w v l) (hl : l ≠ []) : ∃ b o c, v = .slice (some ⟨b, o, none⟩) l.length c ∧ l.length ≤ c ∧ c ≤ maxLen ∧
    ∀ j, j < (ByteArray.mk l.toArray).size → w.cell? ⟨b, o + j, none⟩ = some (.int .u8 ((ByteArray.mk l.toArray).get! j).toNat) := by
  obtain ⟨a, c, rfl, h1, h2, h3⟩ := h
  rcases h3 with h3 | ⟨b, o, rfl, hc⟩
  · exact (hl h3).elim
  · refine ⟨b, o, c, rfl, h1, h2, fun j hj => ?_⟩
    have hj' : j < l.length := hj
    rw [← Lib.getD_get!, hc j hj']
    simp [List.getD, hj']

theorem utf8_DecodeRune (v : Value) (l : List UInt8) (w : World) (h : Bs w v l) (hl : l ≠ []) (hT : Tabs w) :
    Calls Tryd.prog 26 #[v] w (RetV (.tuple #[.int .i32 (dec l).1, .int .i64 (dec l).2]) w) := by
  obtain ⟨b, o, c, rfl, h1, h2, hp⟩ := bs_cells h hl
  have := Any7.utf8_DecodeRune Tryd.lays32 ⟨l.toArray⟩ b o c w hT hp
  rw [decodeGo_dec hl] at this
  exact this.mono fun _ _ ⟨he, hb⟩ => ⟨he, ⟨hb⟩⟩


/-- What the decoder finds where a code point of the text stands. -/
theorem dec_at (l : List UInt8) (j : Nat) (hj : j < (chunks l).length) : l.drop (placeOf (chunks l) j) ≠ [] ∧ dec (l.drop (placeOf (chunks l) j)) = ((chunks l)[j].r, (chunks l)[j].bs.length) := by
  have h1 := chunks_post ((chunks l).take j) ((chunks l).drop j) l (List.take_append_drop _ _).symm
  rw [glue_drop, glue_chunks, List.drop_eq_getElem_cons hj] at h1
  have hne : l.drop (placeOf (chunks l) j) ≠ [] := by intro e; rw [e] at h1; cases h1
  refine ⟨hne, ?_⟩
  rw [chunks_cons hne] at h1
  have h2 := (List.cons.inj h1).1
  have hs := dec_size hne
  have hb := congrArg (fun c => c.bs.length) h2
  have hr := congrArg Ch.r h2
  simp only [List.length_take] at hb hr
  rw [← hr, ← hb]
  apply Prod.ext
  · rfl
  · simp only; omega

theorem place_lt (l : List UInt8) (j : Nat) (hj : j < (chunks l).length) : placeOf (chunks l) j < l.length := by
  have h := (dec_at l j hj).1
  apply Nat.lt_of_not_le
  intro hle
  exact h (List.drop_of_length_le hle)

theorem place_all (l : List UInt8) : placeOf (chunks l) (chunks l).length = l.length := by
  unfold placeOf
  rw [List.take_length, glue_chunks]

/-- The text up to the end of a code point: that one is its last. -/
theorem take_last (l : List UInt8) (j : Nat) (hj : j < (chunks l).length) : chunks (l.take (placeOf (chunks l) (j + 1))) = (chunks l).take j ++ [(chunks l)[j]] := by
  have h1 := chunks_pre ((chunks l).take (j + 1)) ((chunks l).drop (j + 1)) l (List.take_append_drop _ _).symm
  rw [glue_take, glue_chunks] at h1
  rw [h1, List.take_succ_eq_append_getElem hj]

/-- All of that, the code points under a name. -/
theorem chunk_facts (l : List UInt8) : ∃ cs, Hid (chunks l = cs) ∧ Hid (∀ j, j < cs.length → placeOf cs j < l.length) ∧
    Hid (∀ j (hj : j < cs.length), l.drop (placeOf cs j) ≠ [] ∧ dec (l.drop (placeOf cs j)) = (cs[j].r, cs[j].bs.length)) ∧
    Hid (∀ j (hj : j < cs.length), placeOf cs j + cs[j].bs.length = placeOf cs (j + 1)) ∧ Hid (placeOf cs cs.length = l.length) ∧
    Hid (∀ j (hj : j < cs.length), chunks (l.take (placeOf cs (j + 1))) = cs.take j ++ [cs[j]]) ∧ Hid (∀ j, placeOf cs j ≤ l.length) ∧
    Hid (∀ j (hj : j < cs.length), 1 ≤ cs[j].bs.length ∧ cs[j].bs.length ≤ 4 ∧ cs[j].r ≤ 1114111) :=
  ⟨chunks l, Lib.hid rfl, Lib.hid (place_lt l), Lib.hid (dec_at l), Lib.hid (place_end (chunks l)), Lib.hid (place_all l), Lib.hid (take_last l), Lib.hid (fun j => by
    have := placeOf_le (chunks l) j
    rwa [glue_chunks] at this), Lib.hid (fun j hj => by
    have h1 := chunks_bs_pos l _ (List.getElem_mem hj)
    exact ⟨h1.1, h1.2, chunks_rune l _ (List.getElem_mem hj)⟩)⟩
end Go.Proofs.YtiahholgpbjjfaaDoor
