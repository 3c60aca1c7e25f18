/- Plain theory of texts that are mapped code point by code point, of well-formed texts, of texts that are mended. No program is in sight. -/
import Derived.Test.YtiahholgpbjjfaaDoorEncP
namespace Go.Proofs.YtiahholgpbjjfaaDoor

/-- Code points by a function: those with an image below 0 are dropped. -/
def mapC (f : Int → Int) : List Ch → List UInt8
  | [] => []
  | c :: cs => (if f c.r < 0 then [] else encN (f c.r).toNat) ++ mapC f cs
def mapB (f : Int → Int) (l : List UInt8) : List UInt8 := mapC f (chunks l)
/-- The code point that a number is written as. -/
def chOf (n : Nat) : Ch := ⟨encN n, normN n, true⟩
/-- The code points of a mapped text. -/
def imgC (f : Int → Int) : List Ch → List Ch
  | [] => []
  | c :: cs => (if f c.r < 0 then [] else [chOf (f c.r).toNat]) ++ imgC f cs

theorem mapC_append (f : Int → Int) : ∀ a b : List Ch, mapC f (a ++ b) = mapC f a ++ mapC f b
  | [], _ => rfl
  | c :: a, b => by simp [mapC, mapC_append f a b]
theorem imgC_append (f : Int → Int) : ∀ a b : List Ch, imgC f (a ++ b) = imgC f a ++ imgC f b
  | [], _ => rfl
  | c :: a, b => by simp [imgC, imgC_append f a b]
theorem chunks_encN (n : Nat) (t : List UInt8) : chunks (encN n ++ t) = chOf n :: chunks t := chunks_enc (normN_scalar n) t
theorem chunks_mapC (f : Int → Int) : ∀ cs : List Ch, chunks (mapC f cs) = imgC f cs
  | [] => rfl
  | c :: cs => by
    simp only [mapC, imgC]
    split
    · simpa using chunks_mapC f cs
    · rw [chunks_encN, chunks_mapC f cs]; rfl
theorem chunks_mapB (f : Int → Int) (l : List UInt8) : chunks (mapB f l) = imgC f (chunks l) := chunks_mapC f _

def wholeC (cs : List Ch) : Bool := cs.all (·.ok)
def wholeB (l : List UInt8) : Bool := wholeC (chunks l)
theorem wholeC_img (f : Int → Int) : ∀ cs : List Ch, wholeC (imgC f cs) = true
  | [] => rfl
  | c :: cs => by
    have := wholeC_img f cs
    simp only [imgC, wholeC] at *
    split <;> simp [this, chOf]
theorem wholeB_map (f : Int → Int) (l : List UInt8) : wholeB (mapB f l) = true := by unfold wholeB; rw [chunks_mapB]; exact wholeC_img f _

/-- What a code point of a text is: a well-formed sequence is that of its code point; else it is one byte, and counts as U+FFFD. -/
structure ChOk (c : Ch) : Prop where
  scalar : scalarN c.r
  good : c.ok = true → c.bs = encN c.r
  bad : c.ok = false → c.r = 65533 ∧ c.bs.length = 1

theorem chunks_ok (l : List UInt8) : ∀ c ∈ chunks l, ChOk c := by
  induction l using chunks_ind with
  | h0 => intro c hc; cases hc
  | h1 l hl ih =>
    intro c hc
    rw [chunks_cons hl] at hc
    rcases List.mem_cons.1 hc with rfl | hc
    · have hsc := dec_scalar hl
      refine ⟨hsc, fun h => ?_, fun h => ?_⟩
      · show l.take (dec l).2 = encN (dec l).1
        unfold encN
        rw [normN_of hsc]
        exact enc_dec hl h
      · have := dec_bad hl h
        refine ⟨by show (dec l).1 = _; rw [this], ?_⟩
        show (l.take (dec l).2).length = 1
        rw [this, List.length_take]
        have := List.length_pos_iff.2 hl
        omega
    · exact ih c hc

theorem encN_len_pos (n : Nat) : 1 ≤ (encN n).length := (encS_length _).1
theorem encN_bad : (encN 65533).length = 3 := by decide

/-- Mapped to itself: a well-formed text stays; another one grows. -/
theorem mapC_self (cs : List Ch) (h : ∀ c ∈ cs, ChOk c) : (wholeC cs = true → mapC id cs = glue cs) ∧ (wholeC cs = false → (glue cs).length < (mapC id cs).length) ∧ (glue cs).length ≤ (mapC id cs).length := by
  induction cs with
  | nil => exact ⟨fun _ => rfl, (fun h => Bool.noConfusion h), Nat.le_refl _⟩
  | cons c cs ih =>
    obtain ⟨i1, i2, i3⟩ := ih (fun d hd => h d (List.mem_cons_of_mem _ hd))
    have hc := h c (List.mem_cons_self ..)
    have e : mapC id (c :: cs) = encN c.r ++ mapC id cs := by
      simp only [mapC, id]
      rw [if_neg (by omega), Int.toNat_natCast]
    rw [e, glue_cons]
    cases hok : c.ok
    · have hb := hc.bad hok
      have l3 : (encN c.r).length = 3 := by rw [hb.1]; exact encN_bad
      refine ⟨fun hw => ?_, fun _ => ?_, ?_⟩
      · simp [wholeC, hok] at hw
      · rw [List.length_append, List.length_append, hb.2, l3]; omega
      · rw [List.length_append, List.length_append, hb.2, l3]; omega
    · have hg := hc.good hok
      refine ⟨fun hw => ?_, fun hw => ?_, ?_⟩
      · rw [hg, i1 (by simpa [wholeC, hok] using hw)]
      · rw [List.length_append, List.length_append, hg]
        have := i2 (by simpa [wholeC, hok] using hw)
        omega
      · rw [List.length_append, List.length_append, hg]; omega

theorem mapB_self (l : List UInt8) : (mapB id l = l) ↔ wholeB l = true := by
  obtain ⟨h1, h2, _⟩ := mapC_self (chunks l) (chunks_ok l)
  rw [glue_chunks] at h1 h2
  constructor
  · intro e
    cases hw : wholeB l
    · have := h2 hw
      unfold mapB at e
      rw [e] at this
      omega
    · rfl
  · exact h1
theorem imgC_self_length : ∀ cs : List Ch, (imgC id cs).length = cs.length
  | [] => rfl
  | c :: cs => by
    simp only [imgC, id]
    rw [if_neg (by omega)]
    simp [imgC_self_length cs]
theorem imgC_self_r : ∀ cs : List Ch, (∀ c ∈ cs, ChOk c) → (imgC id cs).map Ch.r = cs.map Ch.r
  | [], _ => rfl
  | c :: cs, h => by
    have hc := h c (List.mem_cons_self ..)
    simp only [imgC, id]
    rw [if_neg (by omega), Int.toNat_natCast]
    simp only [List.singleton_append, List.map_cons]
    rw [imgC_self_r cs (fun d hd => h d (List.mem_cons_of_mem _ hd))]
    simp [chOf, normN_of hc.scalar]

theorem mapB_append {f : Int → Int} {a : List UInt8} (h : wholeB a = true) (b : List UInt8) : mapB f (a ++ b) = mapB f a ++ mapB f b := by
  unfold mapB
  rw [chunks_append b (fun c hc => by
    have := List.all_eq_true.1 h c hc
    exact this), mapC_append]
theorem wholeB_append {a b : List UInt8} (ha : wholeB a = true) (hb : wholeB b = true) : wholeB (a ++ b) = true := by
  unfold wholeB at *
  rw [chunks_append b (fun c hc => List.all_eq_true.1 ha c hc)]
  unfold wholeC at *
  rw [List.all_append, ha, hb]; rfl

/-- Two maps, one behind the other. -/
theorem mapC_congr {f g : Int → Int} : ∀ cs : List Ch, (∀ c ∈ cs, f c.r = g c.r) → mapC f cs = mapC g cs
  | [], _ => rfl
  | c :: cs, h => by
    simp only [mapC]
    rw [h c (List.mem_cons_self ..), mapC_congr cs (fun d hd => h d (List.mem_cons_of_mem _ hd))]
theorem mapC_twice (f g : Int → Int) : ∀ cs : List Ch, (∀ c ∈ cs, 0 ≤ f c.r → scalarN (f c.r).toNat) → mapC g (imgC f cs) = mapC (fun r => if f r < 0 then f r else g (f r)) cs
  | [], _ => rfl
  | c :: cs, h => by
    have ih := mapC_twice f g cs (fun d hd => h d (List.mem_cons_of_mem _ hd))
    have hc := h c (List.mem_cons_self ..)
    simp only [imgC, mapC_append, mapC, ih]
    by_cases hneg : f c.r < 0
    · simp [hneg, mapC]
    · have hs := hc (by omega)
      have e : ((normN (f c.r).toNat : Nat) : Int) = f c.r := by rw [normN_of hs]; omega
      have e2 : ((chOf (f c.r).toNat).r : Int) = f c.r := e
      rw [if_neg hneg, if_neg hneg]
      simp only [mapC, List.append_nil, e2]

/-- How many code points have an image that is not below 0. -/
def keptC (f : Int → Int) (cs : List Ch) : Nat := (cs.filter fun c => decide (0 ≤ f c.r)).length
theorem imgC_length (f : Int → Int) : ∀ cs : List Ch, (imgC f cs).length = keptC f cs
  | [] => rfl
  | c :: cs => by
    have ih := imgC_length f cs
    unfold keptC at *
    simp only [imgC, List.length_append, ih, List.filter_cons]
    by_cases h : f c.r < 0
    · rw [if_pos h, if_neg (by simp; omega)]; simp
    · rw [if_neg h, if_pos (by simp; omega)]; simp; omega
theorem mapC_size (f : Int → Int) : ∀ cs : List Ch, (mapC f cs).length ≤ 4 * cs.length
  | [] => by simp [mapC]
  | c :: cs => by
    have ih := mapC_size f cs
    simp only [mapC, List.length_append, List.length_cons]
    split
    · simp; omega
    · have := (encS_length (normN (f c.r).toNat)).2
      unfold encN; omega

/-- Each longest run of bytes that are no sequence is replaced. -/
def mendC (by_ : List UInt8) : Bool → List Ch → List UInt8
  | _, [] => []
  | bad, c :: cs => (if c.ok then c.bs else if bad then [] else by_) ++ mendC by_ (!c.ok) cs
def mendB (by_ : List UInt8) (l : List UInt8) : List UInt8 := mendC by_ false (chunks l)
theorem mendC_whole (by_ : List UInt8) : ∀ (cs : List Ch) (b : Bool), wholeC cs = true → mendC by_ b cs = glue cs
  | [], _, _ => rfl
  | c :: cs, b, h => by
    have h' : c.ok = true ∧ wholeC cs = true := by simpa [wholeC] using h
    simp only [mendC, h'.1, if_true, glue_cons]
    rw [mendC_whole by_ cs _ h'.2]
theorem mendB_whole (by_ l : List UInt8) (h : wholeB l = true) : mendB by_ l = l := by
  unfold mendB
  rw [mendC_whole by_ _ _ h, glue_chunks]
theorem encN_whole (n : Nat) : wholeB (encN n) = true := by
  unfold wholeB
  have := chunks_encN n []
  rw [List.append_nil] at this
  rw [this]
  rfl
theorem mendC_is_whole {by_ : List UInt8} (hb : wholeB by_ = true) : ∀ (cs : List Ch) (b : Bool), (∀ c ∈ cs, ChOk c) → wholeB (mendC by_ b cs) = true
  | [], _, _ => rfl
  | c :: cs, b, h => by
    have ih := mendC_is_whole hb cs (!c.ok) (fun d hd => h d (List.mem_cons_of_mem _ hd))
    simp only [mendC]
    split
    · rename_i hok
      rw [(h c (List.mem_cons_self ..)).good hok]
      exact wholeB_append (encN_whole _) ih
    · split
      · simpa using ih
      · exact wholeB_append hb ih
theorem mendB_is_whole {by_ : List UInt8} (hb : wholeB by_ = true) (l : List UInt8) : wholeB (mendB by_ l) = true := mendC_is_whole hb _ _ (chunks_ok l)
theorem mendC_size (by_ : List UInt8) : ∀ (cs : List Ch) (b : Bool), (mendC by_ b cs).length ≤ (glue cs).length + by_.length * cs.length
  | [], _ => by simp [mendC]
  | c :: cs, b => by
    have ih := mendC_size by_ cs (!c.ok)
    simp only [mendC, List.length_append, glue_cons, List.length_cons, Nat.mul_add, Nat.mul_one]
    split
    · omega
    · split
      · simp; omega
      · omega
/-- Mended and then mapped, or mapped at once, where what the text is mended with, and U+FFFD, are dropped. -/
theorem mapC_mend {by_ : List UInt8} {f : Int → Int} (hb : wholeB by_ = true) (h0 : mapB f by_ = []) (hf : f 65533 < 0) : ∀ (cs : List Ch) (b : Bool), (∀ c ∈ cs, ChOk c) → mapB f (mendC by_ b cs) = mapC f cs
  | [], _, _ => rfl
  | c :: cs, b, h => by
    have ih := mapC_mend hb h0 hf cs (!c.ok) (fun d hd => h d (List.mem_cons_of_mem _ hd))
    have hc := h c (List.mem_cons_self ..)
    simp only [mendC]
    split
    · rename_i hok
      have hbs := hc.good hok
      rw [mapB_append (by rw [hbs]; exact encN_whole _), ih]
      have : mapB f c.bs = if f c.r < 0 then [] else encN (f c.r).toNat := by
        unfold mapB
        have e := chunks_encN c.r []
        rw [List.append_nil] at e
        have e2 : ((chOf c.r).r : Int) = c.r := by show ((normN c.r : Nat) : Int) = _; rw [normN_of hc.scalar]
        rw [hbs, e]
        simp only [mapC, e2]
        exact List.append_nil _
      rw [this]
      simp only [mapC]
    · rename_i hok
      have hbad := hc.bad (Bool.eq_false_iff.2 hok)
      have e : mapC f (c :: cs) = mapC f cs := by
        simp only [mapC]
        rw [hbad.1, if_pos (show f ((65533 : Nat) : Int) < 0 from hf)]; rfl
      rw [e]
      split
      · simpa using ih
      · rw [mapB_append hb, h0, ih]; rfl
end Go.Proofs.YtiahholgpbjjfaaDoor
