/- Plain theory of a text that is mapped twice; the walk of laws.scalar. -/
import Derived.Test.YtlbaoghebjaliaaDoorFnMapCountW
namespace Go.Proofs.YtlbaoghebjaliaaDoor
open Go.RowKit

/-- Both tables at once. -/
def bothF (f g : Int → Int) (r : Int) : Int := if 0 ≤ f r then g (f r) else f r
def bothR (f g : Int → Int) (cs : List Ch) : List (Int × Int) := cs.map fun c => ((c.r : Int), bothF f g c.r)

theorem image_both (f g : Int → Int) : ∀ (cs : List Ch) (c : Ch), c ∈ cs → imageT (bothR f g cs) c.r = bothF f g c.r
  | [], _, h => by cases h
  | d :: cs, c, h => by
    show (if (d.r : Int) = c.r then bothF f g d.r else imageT (bothR f g cs) c.r) = _
    by_cases he : (d.r : Int) = c.r
    · rw [if_pos he, he]
    · rw [if_neg he]
      rcases List.mem_cons.1 h with rfl | h
      · exact absurd rfl he
      · exact image_both f g cs c h

/-- A table that tells code points, or drops them. -/
def RowsOk (rows : List (Int × Int)) : Prop := ∀ x ∈ rows, 0 ≤ x.2 → scalarN x.2.toNat
theorem image_ok {rows : List (Int × Int)} (h : RowsOk rows) {r : Nat} (hr : scalarN r) : 0 ≤ imageT rows r → scalarN (imageT rows r).toNat := by
  induction rows with
  | nil => intro _; show scalarN ((r : Int)).toNat; rw [Int.toNat_natCast]; exact hr
  | cons x rows ih =>
    rw [imageT]
    split
    · exact h x (List.mem_cons_self ..)
    · exact ih (fun y hy => h y (List.mem_cons_of_mem _ hy))

theorem map_twice {rows : List (Int × Int)} (h : RowsOk rows) (g : Int → Int) (l : List UInt8) :
    mapB g (mapB (imageT rows) l) = mapB (imageT (bothR (imageT rows) g (chunks l))) l := by
  show mapC g (chunks (mapB (imageT rows) l)) = _
  rw [chunks_mapB, mapC_twice (imageT rows) g (chunks l) (fun c hc h0 => image_ok h (chunks_ok l c hc).scalar h0)]
  refine mapC_congr _ (fun c hc => ?_)
  rw [image_both _ _ _ c hc]
  unfold bothF
  by_cases h0 : 0 ≤ imageT rows c.r
  · rw [if_neg (by omega), if_pos h0]
  · rw [if_pos (by omega), if_neg h0]

theorem both_le {rows : List (Int × Int)} (h : RowsOk rows) {g : Int → Int} (hg : ∀ r, 0 ≤ r → r ≤ 1114111 → g r ≤ 2147483647) (l : List UInt8) :
    ∀ r : Int, 0 ≤ r → r ≤ 1114111 → imageT (bothR (imageT rows) g (chunks l)) r ≤ 2147483647 := by
  intro r h0 h1
  have key : ∀ cs : List Ch, (∀ c ∈ cs, scalarN c.r) → imageT (bothR (imageT rows) g cs) r ≤ 2147483647 := by
    intro cs hcs
    induction cs with
    | nil => show r ≤ _; omega
    | cons c cs ih =>
      show (if (c.r : Int) = r then bothF (imageT rows) g c.r else imageT (bothR (imageT rows) g cs) r) ≤ _
      split
      · unfold bothF
        split
        · rename_i h2
          have := image_ok h (hcs c (List.mem_cons_self ..)) h2
          unfold scalarN at this
          exact hg _ h2 (by omega)
        · omega
      · exact ih (fun d hd => hcs d (List.mem_cons_of_mem _ hd))
  exact key _ (fun c hc => (chunks_ok l c hc).scalar)

theorem mapB_id_nil (l : List UInt8) : mapB id l = [] ↔ l = [] := by
  constructor
  · intro h
    have := (mapC_self (chunks l) (chunks_ok l)).2.2
    rw [glue_chunks, show mapC id (chunks l) = mapB id l from rfl, h] at this
    exact List.eq_nil_of_length_eq_zero (by simpa using this)
  · rintro rfl; rfl

set_option maxRecDepth 100000 in
theorem laws_scalar (r : Int) (w : World) : Calls Tryd.prog 45 #[.int .i32 r] w (fun e w' => e = .returned (.bool (decide (0 ≤ r ∧ scalarN r.toNat))) ∧ w' = w) := by
  by_cases h0 : 0 ≤ r
  case neg =>
    have e : decide (0 ≤ r ∧ scalarN r.toNat) = false := by simp [h0]
    rw [e]
    go_enter Tryd.func45, Tryd.ntmps45
    go_wp2_with fail
    go_ret
    exact ⟨rfl, rfl⟩
  by_cases h1 : r ≤ 1114111
  case neg =>
    have e : decide (0 ≤ r ∧ scalarN r.toNat) = false := by unfold scalarN; simp; omega
    rw [e]
    go_enter Tryd.func45, Tryd.ntmps45
    go_wp2_with fail
    go_ret
    exact ⟨rfl, rfl⟩
  by_cases h2 : r < 55296
  case pos =>
    have e : decide (0 ≤ r ∧ scalarN r.toNat) = true := by unfold scalarN; simp; omega
    rw [e]
    go_enter Tryd.func45, Tryd.ntmps45
    go_wp2_with fail
    go_ret
    exact ⟨rfl, rfl⟩
  by_cases h3 : 57343 < r
  case pos =>
    have e : decide (0 ≤ r ∧ scalarN r.toNat) = true := by unfold scalarN; simp; omega
    rw [e]
    go_enter Tryd.func45, Tryd.ntmps45
    go_wp2_with fail
    go_ret
    exact ⟨rfl, rfl⟩
  have e : decide (0 ≤ r ∧ scalarN r.toNat) = false := by unfold scalarN; simp; omega
  rw [e]
  go_enter Tryd.func45, Tryd.ntmps45
  go_wp2_with fail
  go_ret
  exact ⟨rfl, rfl⟩
end Go.Proofs.YtlbaoghebjaliaaDoor
