/- Plain theory: the code points of a text of ASCII are its bytes. No program is in sight. -/
import Derived.Test.YtiahholgpbjjfaaDoorTrimP
namespace Go.Proofs.YtiahholgpbjjfaaDoor

/-- A byte of ASCII as a code point. -/
def ach (b : UInt8) : Ch := ⟨[b], b.toNat, true⟩

theorem chunks_at_ascii (a r : List UInt8) (b : UInt8) (hb : b.toNat < 128) : chunks (a ++ b :: r) = chunks a ++ ach b :: chunks r := by
  obtain ⟨cs, ds, h1, h2, h3⟩ := boundary (a ++ b :: r) a.length (by simp) (fun _ => by
    have e : (a ++ b :: r).getD a.length 0 = b := by simp [List.getD]
    rw [e]
    unfold Lib.runeStartB
    simp
    omega)
  rw [List.take_left' rfl] at h2
  rw [List.drop_left' rfl] at h3
  have e1 := chunks_pre cs ds _ h1
  have e2 := chunks_post cs ds _ h1
  rw [h2] at e1
  rw [h3] at e2
  rw [h1, ← e1, ← e2, chunks_cons (l := b :: r) (by simp), dec_ascii b r hb]
  simp [decOk, ach, hb]

theorem chunks_ascii_pre : ∀ (a r : List UInt8), (∀ b ∈ a, b.toNat < 128) → chunks (a ++ r) = a.map ach ++ chunks r
  | [], _, _ => rfl
  | b :: a, r, h => by
    have := chunks_at_ascii [] (a ++ r) b (h b (List.mem_cons_self ..))
    rw [List.nil_append] at this
    rw [List.cons_append, this, chunks_ascii_pre a r (fun x hx => h x (List.mem_cons_of_mem _ hx))]
    rfl
theorem chunks_ascii_post : ∀ (a r : List UInt8), (∀ b ∈ r, b.toNat < 128) → chunks (a ++ r) = chunks a ++ r.map ach
  | a, [], _ => by simp
  | a, b :: r, h => by
    rw [chunks_at_ascii a r b (h b (List.mem_cons_self ..))]
    have := chunks_ascii_pre r [] (fun x hx => h x (List.mem_cons_of_mem _ hx))
    rw [List.append_nil] at this
    rw [this]
    simp [chunks_nil]

theorem chunks_ascii (l : List UInt8) (h : ∀ b ∈ l, b.toNat < 128) : chunks l = l.map ach := by
  have e := chunks_ascii_pre l [] h
  rwa [List.append_nil, chunks_nil, List.append_nil] at e
theorem glue_ach : ∀ l : List UInt8, glue (l.map ach) = l
  | [] => rfl
  | b :: l => by rw [List.map_cons, glue_cons, glue_ach l]; rfl
theorem placeOf_ach (l : List UInt8) (j : Nat) (hj : j ≤ l.length) : placeOf (l.map ach) j = j := by
  unfold placeOf
  rw [← List.map_take, glue_ach, List.length_take]
  omega

theorem tB_trB (p : Int → Bool) (l : List UInt8) : tlB p (trB p l) = tB p l := by
  rcases trim_cases p l with ⟨_, h1, h2, h3⟩ | ⟨A, M, B, h⟩
  · rw [h2, h3]; rfl
  · exact h.tl_tr

theorem ach_all {p : Int → Bool} {a : List UInt8} (ha : ∀ b ∈ a, p b.toNat = true) : ∀ x ∈ a.map ach, p x.r = true := by
  intro x hx
  obtain ⟨b, hb, rfl⟩ := List.mem_map.1 hx
  exact ha b hb

theorem tl_front (p : Int → Bool) (a r : List UInt8) (h1 : ∀ b ∈ a, b.toNat < 128) (ha : ∀ b ∈ a, p b.toNat = true) : tlB p (a ++ r) = tlB p r := by
  unfold tlB trimL
  rw [chunks_ascii_pre a r h1, dropWhile_append_all (ach_all ha)]
theorem tr_back (p : Int → Bool) (r a : List UInt8) (h1 : ∀ b ∈ a, b.toNat < 128) (ha : ∀ b ∈ a, p b.toNat = true) : trB p (r ++ a) = trB p r := by
  unfold trB trimR
  rw [chunks_ascii_post r a h1, List.reverse_append, dropWhile_append_all (fun x hx => ach_all ha x (List.mem_reverse.1 hx))]
theorem t_front (p : Int → Bool) (a r : List UInt8) (h1 : ∀ b ∈ a, b.toNat < 128) (ha : ∀ b ∈ a, p b.toNat = true) : tB p (a ++ r) = tB p r := by
  unfold tB
  rw [tl_front p a r h1 ha]
theorem t_back (p : Int → Bool) (r a : List UInt8) (h1 : ∀ b ∈ a, b.toNat < 128) (ha : ∀ b ∈ a, p b.toNat = true) : tB p (r ++ a) = tB p r := by
  rw [← tB_trB, tr_back p r a h1 ha, tB_trB]
theorem t_all (p : Int → Bool) (a : List UInt8) (h1 : ∀ b ∈ a, b.toNat < 128) (ha : ∀ b ∈ a, p b.toNat = true) : tB p a = [] := by
  have := t_front p a [] h1 ha
  rw [List.append_nil] at this
  rw [this]
  unfold tB tlB trimL
  rw [chunks_nil]
  simp [glue, trB, trimR, chunks_nil]
theorem tl_stay (p : Int → Bool) (b : UInt8) (r : List UInt8) (h1 : b.toNat < 128) (hb : p b.toNat = false) : tlB p (b :: r) = b :: r := by
  have hc := chunks_at_ascii [] r b h1
  rw [List.nil_append, chunks_nil, List.nil_append] at hc
  have hg := glue_chunks (b :: r)
  unfold tlB trimL
  rw [hc] at hg ⊢
  rw [List.dropWhile_cons, if_neg (by show ¬ (p b.toNat = true); simp [hb]), hg]
theorem tr_stay (p : Int → Bool) (b : UInt8) (r : List UInt8) (h1 : b.toNat < 128) (hb : p b.toNat = false) : trB p (r ++ [b]) = r ++ [b] := by
  have hc := chunks_at_ascii r [] b h1
  rw [chunks_nil] at hc
  have hg := glue_chunks (r ++ [b])
  unfold trB
  rw [hc] at hg ⊢
  rw [trimR_split p _ _ [] (by simp) (by show p b.toNat = false; exact hb), hg]
end Go.Proofs.YtiahholgpbjjfaaDoor
