/- Plain theory of simple case folding: the next code point of an orbit by Go's own tables, orbits of at most four, in ascending order. No program is in sight. -/
import Derived.Lib.CaseU
import Derived.KernelRfl
namespace Go.Proofs.YtiahholgpbjjfaaDoor
open Go.Lib

/-- What the table of ASCII gives. -/
def asciiL : List Nat := (List.range 128).map fun i => if i = 107 then 8490 else if i = 115 then 383 else if 65 ≤ i ∧ i ≤ 90 then i + 32 else if 97 ≤ i ∧ i ≤ 122 then i - 32 else i
/-- The orbits of more than two, and other exceptions: a code point and the next one. -/
def orbT : List (Nat × Nat) := [(75, 107), (83, 115), (107, 8490), (115, 383), (181, 924), (197, 229), (223, 7838), (229, 8491), (304, 304), (305, 305), (383, 83), (452, 453), (453, 454), (454, 452), (455, 456), (456, 457), (457, 455), (458, 459), (459, 460), (460, 458), (497, 498), (498, 499), (499, 497), (837, 921), (912, 8147), (914, 946), (917, 949), (920, 952), (921, 953), (922, 954), (924, 956), (928, 960), (929, 961), (931, 962), (934, 966), (937, 969), (944, 8163), (946, 976), (949, 1013), (952, 977), (953, 8126), (954, 1008), (956, 181), (960, 982), (961, 1009), (962, 963), (963, 931), (966, 981), (969, 8486), (976, 914), (977, 1012), (981, 934), (982, 928), (1008, 922), (1009, 929), (1012, 920), (1013, 917), (1042, 1074), (1044, 1076), (1054, 1086), (1057, 1089), (1058, 1090), (1066, 1098), (1074, 7296), (1076, 7297), (1086, 7298), (1089, 7299), (1090, 7300), (1098, 7302), (1122, 1123), (1123, 7303), (7296, 1042), (7297, 1044), (7298, 1054), (7299, 1057), (7300, 7301), (7301, 1058), (7302, 1066), (7303, 1122), (7304, 42570), (7776, 7777), (7777, 7835), (7835, 7776), (7838, 223), (8126, 837), (8147, 912), (8163, 944), (8486, 937), (8490, 75), (8491, 197), (42570, 42571), (42571, 7304), (64261, 64262), (64262, 64261)]
def orbA : Array (Nat × Nat) := orbT.toArray

/-- The search for a place of the table: 'for lo < hi { m := (lo+hi)>>1; if From(m) < r { lo = m+1 } else { hi = m } }'. -/
def orbLo (r : Nat) : Nat → Nat → Nat → Nat
  | 0, lo, _ => lo
  | f + 1, lo, hi => if lo < hi then (if (orbA.getD ((lo + hi) / 2) (0, 0)).1 < r then orbLo r f ((lo + hi) / 2 + 1) hi else orbLo r f lo ((lo + hi) / 2)) else lo
def orbF (r : Nat) : Option Nat :=
  if orbLo r (orbA.size + 1) 0 orbA.size < orbA.size ∧ (orbA.getD (orbLo r (orbA.size + 1) 0 orbA.size) (0, 0)).1 = r then some (orbA.getD (orbLo r (orbA.size + 1) 0 orbA.size) (0, 0)).2 else none
/-- The search for a row of the cases' table, over natural numbers. -/
def lookN (r : Nat) : Nat → Nat → Nat → Option Nat
  | 0, _, _ => none
  | f + 1, lo, hi =>
    if lo < hi then
      (if (caseA.getD ((lo + hi) / 2) (0, 0, 0, 0, 0)).1 ≤ r ∧ r ≤ (caseA.getD ((lo + hi) / 2) (0, 0, 0, 0, 0)).2.1 then some ((lo + hi) / 2)
       else if r < (caseA.getD ((lo + hi) / 2) (0, 0, 0, 0, 0)).1 then lookN r f lo ((lo + hi) / 2)
       else lookN r f ((lo + hi) / 2 + 1) hi)
    else none
theorem lookN_eq (r : Nat) : ∀ f lo hi, lookupIdx caseA (r : Int) f lo hi = lookN r f lo hi
  | 0, _, _ => rfl
  | f + 1, lo, hi => by
    have h1 := lookN_eq r f lo ((lo + hi) / 2)
    have h2 := lookN_eq r f ((lo + hi) / 2 + 1) hi
    simp only [lookupIdx, lookN, h1, h2, Int.ofNat_le, Int.ofNat_lt]

def rowAt (i : Nat) : CaseRow := caseA.getD i (0, 0, 0, 0, 0)
/-- unicode.SimpleFold. -/
def foldS (r : Int) : Int :=
  if r < 0 ∨ 1114111 < r then r
  else if r < 128 then ((asciiL.getD r.toNat 0 : Nat) : Int)
  else match orbF r.toNat with
    | some t => (t : Int)
    | none => match lookN r.toNat (caseA.size + 1) 0 caseA.size with
      | some i => if convertR 1 r (rowAt i) ≠ r then convertR 1 r (rowAt i) else convertR 0 r (rowAt i)
      | none => r

/-- One step after the other leads back after at most four; going round, one step alone leads down. -/
def ok4 (r a b c d : Int) : Prop :=
  a = r ∨ b = r ∨ (c = r ∧ ((r < a ∧ a < b) ∨ (a < b ∧ b < r) ∨ (b < r ∧ r < a))) ∨
  (d = r ∧ ((r < a ∧ a < b ∧ b < c) ∨ (a < b ∧ b < c ∧ c < r) ∨ (b < c ∧ c < r ∧ r < a) ∨ (c < r ∧ r < a ∧ a < b)))
instance (r a b c d : Int) : Decidable (ok4 r a b c d) := by unfold ok4; infer_instance
def chkF (n : Nat) : Bool :=
  let a := foldS n; let b := foldS a; let c := foldS b; let d := foldS c
  decide (ok4 n a b c d ∧ 0 ≤ a ∧ a ≤ 1114111)
def chkRow (x : CaseRow) : Bool := (List.range (x.2.1 - x.1 + 1)).all fun k => chkF (x.1 + k)
set_option maxRecDepth 100000 in
theorem chk_ascii : ((List.range 128).all chkF) = true := by kernel_rfl
set_option maxRecDepth 100000 in
theorem chk_orb : (orbT.all fun p => chkF p.1) = true := by kernel_rfl
set_option maxRecDepth 100000 in
theorem chk_rows : (caseT.all chkRow) = true := by kernel_rfl
end Go.Proofs.YtiahholgpbjjfaaDoor
