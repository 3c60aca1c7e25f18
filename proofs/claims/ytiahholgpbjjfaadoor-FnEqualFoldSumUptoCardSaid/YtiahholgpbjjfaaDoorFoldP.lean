/- Plain theory of simple case folding: the next code point of an orbit by Go's own tables, orbits of at most four, in ascending order. No program is in sight. -/
import Derived.Lib.CaseU
import Derived.KernelRfl
namespace Go.Proofs.YtiahholgpbjjfaaDoor
open Go.Lib

/-- What the table of ASCII gives. -/
def asciiL : List Nat := (List.range 128).map fun i => if i = 107 then 8490 else if i = 115 then 383 else if 65 ≤ i ∧ i ≤ 90 then i + 32 else if 97 ≤ i ∧ i ≤ 122 then i - 32 else i
/-- The orbits of more than two, and other exceptions: a code point and the next one. -/
def orbT : List (Nat × Nat) := [(75, 107), (83, 115), (107, 8490), (115, 383), (181, 924), (197, 229), (223, 7838), (229, 8491), (304, 304), (305, 305), (383, 83), (452, 453), (453, 454), (454, 452), (455, 456), (456, 457), (457, 455), (458, 459), (459, 460), (460, 458), (497, 498), (498, 499), (499, 497), (837, 921), (912, 8147), (914, 946), (917, 949), (920, 952), (921, 953), (922, 954), (924, 956), (928, 960), (929, 961), (931, 962), (934, 966), (937, 969), (944, 8163), (946, 976), (949, 1013), (952, 977), (953, 8126), (954, 1008), (956, 181), (960, 982), (961, 1009), (962, 963), (963, 931), (966, 981), (969, 8486), (976, 914), (977, 1012), (981, 934), (982, 928), (1008, 922), (1009, 929), (1012, 920), (1013, 917), (1042, 1074), (1044, 1076), (1054, 1086), (1057, 1089), (1058, 1090), (1066, 1098), (1074, 7296), (1076, 7297), (1086, 7298), (1089, 7299), (1090, 7300), (1098, 7302), (1122, 1123), (1123, 7303), (7296, 1042), (7297, 1044), (7298, 1054), (7299, 1057), (7300, 7301), (7301, 1058), (7302, 1066), (7303, 1122), (7304, 42570), (7776, 7777), (7777, 7835), (7835, 7776), (7838, 223), (8126, 837), (8147, 912), (8163, 944), (8486, 937), (8490, 75), (8491, 197), (42570, 42571), (42571, 7304), (64261, 64262), (64262, 64261)]
def orbA : Array (Nat × Nat) := orbT.toArray

/-- The search for a place of the table: 'for lo < hi { m := (lo+hi)>>1; if From(m) < r { lo = m+1 } else { hi = m } }'. -/
def orbLo (r : Nat) : Nat → Nat → Nat → Nat
  | 0, lo, _ => lo
  | f + 1, lo, hi => if lo < hi then (if (orbA.getD ((lo + hi) / 2) (0, 0)).1 < r then orbLo r f ((lo + hi) / 2 + 1) hi else orbLo r f lo ((lo + hi) / 2)) else lo
def orbF (r : Nat) : Option Nat :=
  if orbLo r (orbA.size + 1) 0 orbA.size < orbA.size ∧ (orbA.getD (orbLo r (orbA.size + 1) 0 orbA.size) (0, 0)).1 = r then some (orbA.getD (orbLo r (orbA.size + 1) 0 orbA.size) (0, 0)).2 else none
/-- The search for a row of the cases' table, over natural numbers. -/
def lookN (r : Nat) : Nat → Nat → Nat → Option Nat
  | 0, _, _ => none
  | f + 1, lo, hi =>
    if lo < hi then
      (if (caseA.getD ((lo + hi) / 2) (0, 0, 0, 0, 0)).1 ≤ r ∧ r ≤ (caseA.getD ((lo + hi) / 2) (0, 0, 0, 0, 0)).2.1 then some ((lo + hi) / 2)
       else if r < (caseA.getD ((lo + hi) / 2) (0, 0, 0, 0, 0)).1 then lookN r f lo ((lo + hi) / 2)
       else lookN r f ((lo + hi) / 2 + 1) hi)
    else none
theorem lookN_eq (r : Nat) : ∀ f lo hi, lookupIdx caseA (r : Int) f lo hi = lookN r f lo hi
  | 0, _, _ => rfl
  | f + 1, lo, hi => by
    have h1 := lookN_eq r f lo ((lo + hi) / 2)
    have h2 := lookN_eq r f ((lo + hi) / 2 + 1) hi
    simp only [lookupIdx, lookN, h1, h2, Int.ofNat_le, Int.ofNat_lt]

def rowAt (i : Nat) : CaseRow := caseA.getD i (0, 0, 0, 0, 0)
/-- unicode.SimpleFold. -/
def foldS (r : Int) : Int :=
  if r < 0 ∨ 1114111 < r then r
  else if r < 128 then ((asciiL.getD r.toNat 0 : Nat) : Int)
  else match orbF r.toNat with
    | some t => (t : Int)
    | none => match lookN r.toNat (caseA.size + 1) 0 caseA.size with
      | some i => if convertR 1 r (rowAt i) ≠ r then convertR 1 r (rowAt i) else convertR 0 r (rowAt i)
      | none => r

/-- One step after the other leads back after at most four; going round, one step alone leads down. -/
def ok4 (r a b c d : Int) : Prop :=
  a = r ∨ b = r ∨ (c = r ∧ ((r < a ∧ a < b) ∨ (a < b ∧ b < r) ∨ (b < r ∧ r < a))) ∨
  (d = r ∧ ((r < a ∧ a < b ∧ b < c) ∨ (a < b ∧ b < c ∧ c < r) ∨ (b < c ∧ c < r ∧ r < a) ∨ (c < r ∧ r < a ∧ a < b)))
instance (r a b c d : Int) : Decidable (ok4 r a b c d) := by unfold ok4; infer_instance
def chkF (n : Nat) : Bool :=
  let a := foldS n; let b := foldS a; let c := foldS b; let d := foldS c
  decide (ok4 n a b c d ∧ 0 ≤ a ∧ a ≤ 1114111)
def chkRow (x : CaseRow) : Bool := (List.range (x.2.1 - x.1 + 1)).all fun k => chkF (x.1 + k)
set_option maxRecDepth 100000 in
theorem chk_ascii : ((List.range 128).all chkF) = true := by kernel_rfl
set_option maxRecDepth 100000 in
theorem chk_orb : (orbT.all fun p => chkF p.1) = true := by kernel_rfl
set_option maxRecDepth 100000 in
theorem chk_rows0 : (((caseT.drop 0).take 8).all chkRow) = true := by kernel_rfl
set_option maxRecDepth 100000 in
theorem chk_rows1 : (((caseT.drop 8).take 8).all chkRow) = true := by kernel_rfl
set_option maxRecDepth 100000 in
theorem chk_rows2 : (((caseT.drop 16).take 8).all chkRow) = true := by kernel_rfl
set_option maxRecDepth 100000 in
theorem chk_rows3 : (((caseT.drop 24).take 8).all chkRow) = true := by kernel_rfl
set_option maxRecDepth 100000 in
theorem chk_rows4 : (((caseT.drop 32).take 8).all chkRow) = true := by kernel_rfl
set_option maxRecDepth 100000 in
theorem chk_rows5 : (((caseT.drop 40).take 8).all chkRow) = true := by kernel_rfl
set_option maxRecDepth 100000 in
theorem chk_rows6 : (((caseT.drop 48).take 8).all chkRow) = true := by kernel_rfl
set_option maxRecDepth 100000 in
theorem chk_rows7 : (((caseT.drop 56).take 8).all chkRow) = true := by kernel_rfl
set_option maxRecDepth 100000 in
theorem chk_rows8 : (((caseT.drop 64).take 8).all chkRow) = true := by kernel_rfl
set_option maxRecDepth 100000 in
theorem chk_rows9 : (((caseT.drop 72).take 8).all chkRow) = true := by kernel_rfl
set_option maxRecDepth 100000 in
theorem chk_rows10 : (((caseT.drop 80).take 8).all chkRow) = true := by kernel_rfl
set_option maxRecDepth 100000 in
theorem chk_rows11 : (((caseT.drop 88).take 8).all chkRow) = true := by kernel_rfl
set_option maxRecDepth 100000 in
theorem chk_rows12 : (((caseT.drop 96).take 8).all chkRow) = true := by kernel_rfl
set_option maxRecDepth 100000 in
theorem chk_rows13 : (((caseT.drop 104).take 8).all chkRow) = true := by kernel_rfl
set_option maxRecDepth 100000 in
theorem chk_rows14 : (((caseT.drop 112).take 8).all chkRow) = true := by kernel_rfl
set_option maxRecDepth 100000 in
theorem chk_rows15 : (((caseT.drop 120).take 8).all chkRow) = true := by kernel_rfl
set_option maxRecDepth 100000 in
theorem chk_rows16 : (((caseT.drop 128).take 8).all chkRow) = true := by kernel_rfl
set_option maxRecDepth 100000 in
theorem chk_rows17 : (((caseT.drop 136).take 8).all chkRow) = true := by kernel_rfl
set_option maxRecDepth 100000 in
theorem chk_rows18 : (((caseT.drop 144).take 8).all chkRow) = true := by kernel_rfl
set_option maxRecDepth 100000 in
theorem chk_rows19 : (((caseT.drop 152).take 8).all chkRow) = true := by kernel_rfl
set_option maxRecDepth 100000 in
theorem chk_rows20 : (((caseT.drop 160).take 8).all chkRow) = true := by kernel_rfl
set_option maxRecDepth 100000 in
theorem chk_rows21 : (((caseT.drop 168).take 8).all chkRow) = true := by kernel_rfl
set_option maxRecDepth 100000 in
theorem chk_rows22 : (((caseT.drop 176).take 8).all chkRow) = true := by kernel_rfl
set_option maxRecDepth 100000 in
theorem chk_rows23 : (((caseT.drop 184).take 8).all chkRow) = true := by kernel_rfl
set_option maxRecDepth 100000 in
theorem chk_rows24 : (((caseT.drop 192).take 8).all chkRow) = true := by kernel_rfl
set_option maxRecDepth 100000 in
theorem chk_rows25 : (((caseT.drop 200).take 8).all chkRow) = true := by kernel_rfl
set_option maxRecDepth 100000 in
theorem chk_rows26 : (((caseT.drop 208).take 8).all chkRow) = true := by kernel_rfl
set_option maxRecDepth 100000 in
theorem chk_rows27 : (((caseT.drop 216).take 8).all chkRow) = true := by kernel_rfl
set_option maxRecDepth 100000 in
theorem chk_rows28 : (((caseT.drop 224).take 8).all chkRow) = true := by kernel_rfl
set_option maxRecDepth 100000 in
theorem chk_rows29 : (((caseT.drop 232).take 8).all chkRow) = true := by kernel_rfl
set_option maxRecDepth 100000 in
theorem chk_rows30 : (((caseT.drop 240).take 8).all chkRow) = true := by kernel_rfl
set_option maxRecDepth 100000 in
theorem chk_rows31 : (((caseT.drop 248).take 8).all chkRow) = true := by kernel_rfl
set_option maxRecDepth 100000 in
theorem chk_rows32 : (((caseT.drop 256).take 8).all chkRow) = true := by kernel_rfl
set_option maxRecDepth 100000 in
theorem chk_rows33 : (((caseT.drop 264).take 8).all chkRow) = true := by kernel_rfl
set_option maxRecDepth 100000 in
theorem chk_rows34 : (((caseT.drop 272).take 8).all chkRow) = true := by kernel_rfl
set_option maxRecDepth 100000 in
theorem chk_rows35 : (((caseT.drop 280).take 8).all chkRow) = true := by kernel_rfl
set_option maxRecDepth 100000 in
theorem chk_rows36 : (((caseT.drop 288).take 8).all chkRow) = true := by kernel_rfl
set_option maxRecDepth 100000 in
theorem chk_rows37 : (((caseT.drop 296).take 8).all chkRow) = true := by kernel_rfl
set_option maxRecDepth 100000 in
theorem chk_rows38 : (((caseT.drop 304).take 8).all chkRow) = true := by kernel_rfl
set_option maxRecDepth 100000 in
theorem chk_rows39 : (((caseT.drop 312).take 8).all chkRow) = true := by kernel_rfl
set_option maxRecDepth 100000 in
theorem chk_rows40 : (((caseT.drop 320).take 8).all chkRow) = true := by kernel_rfl
set_option maxRecDepth 100000 in
theorem chk_rows41 : (((caseT.drop 328).take 8).all chkRow) = true := by kernel_rfl
theorem parts_all {α : Type} (p : α → Bool) (k : Nat) : ∀ (m : Nat) (l : List α), l.length ≤ m * k → (∀ q, q < m → ((l.drop (q * k)).take k).all p = true) → l.all p = true
  | 0, l, hl, _ => by
    have : l = [] := List.eq_nil_of_length_eq_zero (by simpa using hl)
    rw [this]; rfl
  | m + 1, l, hl, h => by
    have h0 := h 0 (by omega)
    rw [Nat.zero_mul, List.drop_zero] at h0
    have e := List.take_append_drop k l
    rw [← e, List.all_append, h0, parts_all p k m (l.drop k) (by rw [List.length_drop, Nat.succ_mul] at *; omega) (fun q hq => by
      have := h (q + 1) (by omega)
      rwa [List.drop_drop, show k + q * k = (q + 1) * k by rw [Nat.succ_mul]; omega])]
    rfl
theorem chk_rows : (caseT.all chkRow) = true := by
  refine parts_all chkRow 8 42 caseT (Nat.le_of_eq (show caseT.length = 42 * 8 by kernel_rfl)) fun q hq => ?_
  match q, hq with
  | 0, _ => exact chk_rows0
  | 1, _ => exact chk_rows1
  | 2, _ => exact chk_rows2
  | 3, _ => exact chk_rows3
  | 4, _ => exact chk_rows4
  | 5, _ => exact chk_rows5
  | 6, _ => exact chk_rows6
  | 7, _ => exact chk_rows7
  | 8, _ => exact chk_rows8
  | 9, _ => exact chk_rows9
  | 10, _ => exact chk_rows10
  | 11, _ => exact chk_rows11
  | 12, _ => exact chk_rows12
  | 13, _ => exact chk_rows13
  | 14, _ => exact chk_rows14
  | 15, _ => exact chk_rows15
  | 16, _ => exact chk_rows16
  | 17, _ => exact chk_rows17
  | 18, _ => exact chk_rows18
  | 19, _ => exact chk_rows19
  | 20, _ => exact chk_rows20
  | 21, _ => exact chk_rows21
  | 22, _ => exact chk_rows22
  | 23, _ => exact chk_rows23
  | 24, _ => exact chk_rows24
  | 25, _ => exact chk_rows25
  | 26, _ => exact chk_rows26
  | 27, _ => exact chk_rows27
  | 28, _ => exact chk_rows28
  | 29, _ => exact chk_rows29
  | 30, _ => exact chk_rows30
  | 31, _ => exact chk_rows31
  | 32, _ => exact chk_rows32
  | 33, _ => exact chk_rows33
  | 34, _ => exact chk_rows34
  | 35, _ => exact chk_rows35
  | 36, _ => exact chk_rows36
  | 37, _ => exact chk_rows37
  | 38, _ => exact chk_rows38
  | 39, _ => exact chk_rows39
  | 40, _ => exact chk_rows40
  | 41, _ => exact chk_rows41
  | n + 42, h => omega
end Go.Proofs.YtiahholgpbjjfaaDoor
