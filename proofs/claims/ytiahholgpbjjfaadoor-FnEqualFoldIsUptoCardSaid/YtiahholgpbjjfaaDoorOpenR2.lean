/- How large the arguments of a law are: by the form's reach, and by the second form's bound. No condition. -/
import Derived.Test.YtiahholgpbjjfaaDoorOpenR
namespace Go.Proofs.YtiahholgpbjjfaaDoor
open Go.ChangeShapes Go.WideShapes Go.ChangeAt Go.RowKit Go.Shelf

theorem bulk_one {H : Type} (d : DataW H) : 1 ≤ Rows.uptoBulk d := by
  cases d with
  | lit l => cases l <;> simp [Rows.uptoBulk]
  | nil => simp [Rows.uptoBulk]
  | ptr d => simp [Rows.uptoBulk]
  | slice elems spare => simp [Rows.uptoBulk]
  | agg parts => simp [Rows.uptoBulk]
  | iface t d => simp [Rows.uptoBulk]
  | map entries => simp [Rows.uptoBulk]
  | held h => simp [Rows.uptoBulk]
theorem bulk_part {H : Type} {d : DataW H} {l : List (DataW H)} (h : d ∈ l) : Rows.uptoBulk d ≤ Rows.uptoBulkAll l := by
  induction l with
  | nil => cases h
  | cons x r ih =>
    simp only [Rows.uptoBulkAll]
    cases List.mem_cons.1 h with
    | inl e => subst e; omega
    | inr e => have := ih e; omega
theorem bulk_length {H : Type} (l : List (DataW H)) : l.length ≤ Rows.uptoBulkAll l := by
  induction l with
  | nil => simp [Rows.uptoBulkAll]
  | cons x r ih => have := bulk_one x; simp only [Rows.uptoBulkAll, List.length_cons]; omega
theorem bulk_slice {H : Type} (elems spare : List (DataW H)) : elems.length ≤ Rows.uptoBulk (.slice elems spare) := by
  have h1 := bulk_length elems
  simp only [Rows.uptoBulk]
  omega
theorem bulk_bound {H : Type} {l : List (DataW H)} (hk : Rows.uptoSmall H l = true) : Rows.uptoBulkAll l ≤ 1048576 := by
  unfold Rows.uptoSmall at hk
  exact of_decide_eq_true hk
/-- By the second form's bound: one argument's bulk. -/
theorem bulk_arg {H : Type} {l : List (DataW H)} (hk : Rows.uptoSmall H l = true) {d : DataW H} (h : d ∈ l) : Rows.uptoBulk d ≤ 1048576 := Nat.le_trans (bulk_part h) (bulk_bound hk)
theorem bulk_str {H : Type} {l : List (DataW H)} (hk : Rows.uptoSmall H l = true) {bytes : List UInt8} (h : DataW.lit (.string bytes) ∈ l) : bytes.length ≤ 1048576 := by
  have := bulk_arg hk h
  simp only [Rows.uptoBulk] at this
  omega

/-- What a slice's datum says of its length: a slice of integers. -/
def LenOf {H : Type} (d : DataW H) (n : Nat) : Prop := n = 0 ∨ ∃ elems spare, d = .slice elems spare ∧ n = elems.length
theorem LenOf.bulk {H : Type} {l : List (DataW H)} (hk : Rows.uptoSmall H l = true) {d : DataW H} {n : Nat} (h : LenOf d n) (hd : d ∈ l) : n ≤ 1048576 := by
  rcases h with rfl | ⟨e, s, rfl, rfl⟩
  · omega
  · have := bulk_arg hk hd
    have := bulk_slice e s
    omega
theorem LenOf.sized {H : Type} {P : Program} {ts : List TypeId} {ds : List (DataW H)} (hs : (DataW.weightsEach P ts ds).all (· ≤ reachBytes) = true) {j : Nat} {t e : TypeId} {d : DataW H} {n : Nat} (h : LenOf d n) (ht : ts[j]? = some t) (hd : ds[j]? = some d) (hu : P.underlying t = some (.slice e)) : n * P.bytesOf e ≤ reachBytes := by
  rcases h with rfl | ⟨el, s, rfl, rfl⟩
  · simp
  · have := sized_slice hs ht hd hu
    exact Nat.le_trans (Nat.mul_le_mul_right _ (Nat.le_add_right _ _)) this

theorem open_runes_len {H : Type} {enc : TypeId × Value → H} {P : Program} {W : World} {r : Reach} {b0 : Nat} {t e : TypeId} {v : Value} {d : DataW H} {p : List MemPlace}
    (ht : P.underlying t = some (.slice e)) (he : P.underlying e = some (.int .i32)) (hc : P.cellsOf e = 1) (hv : Value.okWide P W r b0 t v)
    (h : DataW.Trod enc P W 0 (fun _ => true) true t v d p) : ∃ rs, Is W v rs ∧ LenOf d rs.length := by
  obtain ⟨a0, len, cap, rfl⟩ := okWide_slice ht hv
  obtain ⟨fuel, hf⟩ := h
  replace hf : DataW.trod enc P W 0 (fun _ => true) true fuel t [.slice a0 len cap] = some (d, p) := by simpa [Value.cells] using hf
  obtain ⟨rs, hi⟩ := open_runes_cs ht he hc hf
  refine ⟨rs, hi, ?_⟩
  have hl : rs.length = len := by
    obtain ⟨a, c, hv, _⟩ := hi.raw
    injection hv with _ h2 _
    exact h2.symm
  rcases open_ints ht he hc hf with ⟨hcs, _⟩ | ⟨x, l2, c2, zs, hcs, _, hl2, hm, hz, hx, _, _⟩
  · left
    simp at hcs
    omega
  · right
    simp only [List.cons.injEq, Value.slice.injEq, and_true] at hcs
    injection hx with hx1 hx2
    refine ⟨_, _, hx1, ?_⟩
    have hz' : zs.length = c2 := by simpa using hz
    simp [lits]
    omega

theorem bytes_i32 : Tryd.prog.bytesOf 21 = 4 := by kernel_rfl
end Go.Proofs.YtiahholgpbjjfaaDoor
