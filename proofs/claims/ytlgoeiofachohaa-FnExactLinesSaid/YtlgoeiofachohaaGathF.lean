/- The walk of impl.gathered. -/
import Derived.Test.YtlgoeiofachohaaGath
namespace Go.Proofs.Ytlgoeiofachohaa
open Go.RowKit Go.Shelf

attribute [local go_sem] Oper.semAt_some

/-- A call's answer: a new list of texts; what lay below m lies as it lay. -/
def RetGath (m : Nat) (w : World) (L : List (List UInt8)) (e : Ending) (w' : World) : Prop := ∃ v, e = .returned v ∧ OwnL w.heap.size w'.heap.size w' v L ∧ Below m w w'

theorem boxed_ext {W W' : World} {B : Nat} {t : TypeId} {v : Value} (h : Boxed W B t v) (x : Ext W W') : Boxed W' B t v := (x.block h.lt).trans h
theorem boxed_fr {W W' : World} {B lo hi : Nat} {t : TypeId} {v : Value} (h : Boxed W B t v) (x : Fr lo hi W W') (hd : B < lo ∨ hi ≤ B) : Boxed W' B t v := (x.block B h.lt hd).trans h

theorem GrowL.fr {B lo hi : Nat} {T : TypeId} {w w' : World} {v : Value} {L : List (List UInt8)} (h : GrowL B T w v L) (x : Fr lo hi w w') (hd : hi ≤ B) : GrowL B T w' v L := by
  obtain ⟨vs, g, h1, h2, h3⟩ := h
  refine ⟨vs, g, owns_keepFr h1 x hd, h2, ?_⟩
  have hle := h3.le
  exact (Chain.fr x h3 (.inr hd)).mono (Nat.le_refl _) x.size

theorem own_putObj {lo hi : Nat} {W : World} {v : Value} {l : List UInt8} (h : Own lo hi W v l) {k : Nat} {o : Obj} (o' : Obj) (hk : W.heap[k]? = some o) (ho : o.isCells = false) : Own lo hi (W.putObj k o') v l := by
  obtain ⟨a, c, hv, k1, k2, h3⟩ := h
  refine ⟨a, c, hv, k1, k2, ?_⟩
  rcases h3 with h3 | ⟨b, p, ha, b1, b2, hc⟩
  · exact .inl h3
  · refine .inr ⟨b, p, ha, b1, b2, fun i hi => ?_⟩
    have h1 := (hc i hi).1
    have hne : b ≠ k := by
      rintro rfl
      unfold World.cell? at h1
      simp only at h1
      rw [hk] at h1
      cases o <;> first | (simp at h1; done) | exact Bool.noConfusion ho
    have hb := putObj_other (W := W) o' hne
    exact ⟨(World.cell?_of_block (a := ⟨b, p + i, none⟩) hb).trans h1, (World.frozen?_of_block (a := ⟨b, p + i, none⟩) hb).trans (hc i hi).2⟩
theorem chain_putObj {W : World} {hb k : Nat} {o : Obj} (o' : Obj) (hk : W.heap[k]? = some o) (ho : o.isCells = false) {lo hi : Nat} {vs : List Value} {L : List (List UInt8)} (h : Chain W hb lo hi vs L) : Chain (W.putObj k o') hb lo hi vs L :=
  Chain.frH (fun _ _ _ _ _ ow => own_putObj ow o' hk ho) h
theorem putObj_size (W : World) (k : Nat) (o : Obj) : (W.putObj k o).heap.size = W.heap.size := by simp [World.putObj]
theorem growL_putObj {B : Nat} {T : TypeId} {W : World} {v : Value} {L : List (List UInt8)} (h : GrowL B T W v L) {k : Nat} {o : Obj} (o' : Obj) (hk : W.heap[k]? = some o) (ho : o.isCells = false) : GrowL B T (W.putObj k o') v L := by
  obtain ⟨vs, g, h1, h2, h3⟩ := h
  refine ⟨vs, g, ownsRow_putObj h1 o' hk ho, h2, ?_⟩
  rw [putObj_size]
  exact chain_putObj o' hk ho h3
theorem boxed_putObj {W : World} {B : Nat} {t : TypeId} {v : Value} (h : Boxed W B t v) {k : Nat} {o : Obj} (o' : Obj) (hk : W.heap[k]? = some o) (ho : o.isCells = false) : Boxed (W.putObj k o') B t v := by
  refine (putObj_other o' ?_).trans h
  rintro rfl
  rw [show W.heap[B]? = _ from h] at hk
  injection hk with hk
  subst hk
  cases ho
theorem ownL_putObj {lo hi : Nat} {W : World} {v : Value} {L : List (List UInt8)} (h : OwnL lo hi W v L) {k : Nat} {o : Obj} (o' : Obj) (hk : W.heap[k]? = some o) (ho : o.isCells = false) : OwnL lo hi (W.putObj k o') v L := by
  obtain ⟨g, cap, vs, hv, h1, h2, h3, h4, hc, ch⟩ := h
  refine ⟨g, cap, vs, hv, h1, h2, h3, h4, fun i hi => ?_, chain_putObj o' hk ho ch⟩
  have h5 := hc i hi
  have hne : g ≠ k := by
    rintro rfl
    unfold World.cell? at h5
    simp only at h5
    rw [hk] at h5
    cases o <;> first | (simp at h5; done) | exact Bool.noConfusion ho
  exact (World.cell?_of_block (a := ⟨g, i, none⟩) (putObj_other (W := W) o' hne)).trans h5

/-- 'append(v, x)' inside a fence: where the new row lies. -/
theorem wpListIn_appendAt {F : Fence} {nn : Nat} {P : Program} {ops : Array Oper} {rest : List Oper} {o : Oper} {a : Act} {Q : Exit → Act → World → Prop} {w : World}
    (hgu : o.guard = none) (t : TypeId) (x y : Operand) (hop : o.op = Op.call { callee := .builtin .append, args := #[x, y], argTypes := #[t, t] })
    (e : TypeId) (size bytes : Nat) (z : Value) (ht : P.underlying t = some (.slice e)) (hinfo : (P.info? e).map (fun i => (i.zero, i.size, i.bytes)) = some (some z, size, bytes)) (hzs : z.cells.size = size) (hsz : 0 < size)
    (B : Nat) (v : Value) (n : Nat) (xs : List Value) (hx : a.eval x = v) (hv : w.ownsRow B e size v n xs) (ad : Addr) (m c : Nat) (news : List Value) (hy : a.eval y = .slice (some ad) m c) (hl : news.length = m * size)
    (hnews : ∀ j u, news[j]? = some u → w.cell? (ad.add j) = some u) (h1 : ∀ u ∈ news, u.oneCell' = true) (hlen : (n + m) * bytes ≤ 140737488355328) (hlen2 : n + m ≤ 140737488355328) (hB : B ≤ w.heap.size)
    (hK : ∀ v' w', w'.ownsRow B e size v' (n + m) (xs ++ news) → w.grownBy w' v.ownBlock → (v'.ownBlock = v.ownBlock ∨ v'.ownBlock = some w.heap.size) → wpListIn F nn P ops Q rest (a.put o.dst v') w') : wpListIn F nn P ops Q (o :: rest) a w := by
  refine wpListIn_plain hgu fun K hK' => ?_
  obtain ⟨i, hi, hzz⟩ := Option.map_eq_some_iff.1 hinfo
  simp only [Prod.mk.injEq] at hzz
  obtain ⟨hz, hs, hby⟩ := hzz
  obtain ⟨v', w', hr, h2, h3, _, h4⟩ := run_append_own_at (P := P) (w := w) B t o.type e i z size bytes ht hi hz hs hby hzs hsz v n xs hv ad m c news hl hnews h1 (by unfold maxLen; omega) hlen hB
  unfold Oper.wpIn
  refine ⟨?_, ?_⟩
  · simp [Oper.about, hop, resolve, Target.leads, Sem.run_pure]
  · rw [Oper.semAt_plain F _ _ (by rw [hop]; intro c hc'; cases hc')]
    simp [execOp, hop, resolve, invoke, builtin, hx, hy, hr, Result.andThen]
    exact hK' _ _ (hK v' w' h2 h3 h4)

/-- One text more, where the world may have grown between. -/
theorem GrowL.snoc2 {B : Nat} {T : TypeId} {w w0 w1 w2 w3 : World} {v u v' : Value} {L : List (List UInt8)} {l : List UInt8} (h : GrowL B T w v L) (x0 : Ext w w0) (o : Own w0.heap.size w1.heap.size w1 u l) (x1 : Ext w0 w1) (x2 : Ext w1 w2) {vs : List Value}
    (hv : w.ownsRow B T 1 v L.length vs) (h3 : w3.ownsRow B T 1 v' (L.length + 1) (vs ++ [u])) (g3 : w2.grownBy w3 v.ownBlock) (hat : v'.ownBlock = v.ownBlock ∨ v'.ownBlock = some w2.heap.size) : GrowL B T w3 v' (L ++ [l]) := by
  obtain ⟨vs', g, h1, h2, ch⟩ := h
  have hvs : vs' = vs := by
    rcases h1.2 with ⟨e1, e2⟩ | ⟨g1, cap1, cur1, e1, _, hh1, _, _, _, ht1⟩
    · rw [e1] at h2; cases h2
    · rcases hv.2 with ⟨e2, _⟩ | ⟨g2, cap2, cur2, e2, _, hh2, _, _, _, ht2⟩
      · rw [e1] at e2; cases e2
      · rw [e1] at e2
        injection e2 with e3 _ _
        injection e3 with e3
        injection e3 with e3
        subst e3
        rw [hh1] at hh2
        injection hh2 with hh2
        injection hh2 with hh2 _
        rw [← ht1, ← ht2, hh2]
  subst hvs
  have hglt := owns_lt h1 g h2
  have s0 := x0.size
  have s1 := x1.size
  have s2 := x2.size
  have s3 := g3.size
  rw [h2] at hat g3
  have keep : ∀ lo hi v l, (g < lo ∨ hi ≤ g) → Own lo hi w2 v l → Own lo hi w3 v l := by
    intro lo hi v l hd ow
    obtain ⟨a, c, hv, q1, q2, q3⟩ := ow
    refine ⟨a, c, hv, q1, q2, ?_⟩
    rcases q3 with q3 | ⟨b, o, ha, b1, b2, hc⟩
    · exact .inl q3
    · refine .inr ⟨b, o, ha, b1, b2, fun i hi => ?_⟩
      have hb := g3.block b (World.block_lt_of_cell? _ _ (hc i hi).1) (by intro e; injection e with e; omega)
      exact ⟨(World.cell?_of_block (a := ⟨b, o + i, none⟩) hb).trans (hc i hi).1, (World.frozen?_of_block (a := ⟨b, o + i, none⟩) hb).trans (hc i hi).2⟩
  have ch1 : Chain w3 g B w.heap.size vs' L := Chain.frH keep (ch.ext (x0.trans (x1.trans x2)))
  have o3 : Own w0.heap.size w1.heap.size w3 u l := keep _ _ _ _ (.inl (by omega)) (o.ext x2)
  refine ⟨vs' ++ [u], ?_⟩
  rw [List.length_append, List.length_singleton]
  rcases hat with hat | hat
  · exact ⟨g, h3, hat, Chain.snoc (by omega) s1 (by omega) (.inl (by omega)) o3 ch1⟩
  · exact ⟨w2.heap.size, h3, hat, Chain.snoc (by omega) s1 (by omega) (.inr (by omega)) o3 (ch1.other (by omega))⟩

/-- A box of a slice is written: no text and no row lies in it. -/
theorem own_setBox {lo hi : Nat} {W : World} {v : Value} {l : List UInt8} (h : Own lo hi W v l) {B : Nat} {t : TypeId} {a : Option Addr} {n c : Nat} (b : Boxed W B t (.slice a n c)) (u : Value) : Own lo hi (W.setCell ⟨B, 0, none⟩ u) v l := by
  obtain ⟨a, c, hv, k1, k2, h3⟩ := h
  refine ⟨a, c, hv, k1, k2, ?_⟩
  rcases h3 with h3 | ⟨b', p, ha, b1, b2, hc⟩
  · exact .inl h3
  · refine .inr ⟨b', p, ha, b1, b2, fun i hi => ?_⟩
    have h1 := (hc i hi).1
    have hne : b' ≠ B := by
      rintro rfl
      unfold World.cell? at h1
      simp only at h1
      rw [show W.heap[b']? = _ from b] at h1
      rcases hp : p + i with _ | q
      · rw [hp] at h1; simp at h1
      · rw [hp] at h1; simp at h1
    have hb : (W.setCell ⟨B, 0, none⟩ u).heap[b']? = W.heap[b']? :=
      (Fr.setCell (p := ⟨B, 0, none⟩) (lo := B) (hi := B + 1) (w := W) (Nat.le_refl _) (Nat.lt_succ_self _) u).block b' (World.block_lt_of_cell? _ _ (hc i hi).1) (by omega)
    exact ⟨(World.cell?_of_block (a := ⟨b', p + i, none⟩) hb).trans (hc i hi).1, (World.frozen?_of_block (a := ⟨b', p + i, none⟩) hb).trans (hc i hi).2⟩
theorem setCell_size (W : World) (p : Addr) (u : Value) : (W.setCell p u).heap.size = W.heap.size := by simp [World.setCell]
theorem GrowL.setBox {B0 B : Nat} {T t : TypeId} {W : World} {v u : Value} {L : List (List UInt8)} (h : GrowL B0 T W v L) {a : Option Addr} {n c : Nat} (b : Boxed W B t (.slice a n c)) (ht : T ≠ t) : GrowL B0 T (W.setCell ⟨B, 0, none⟩ u) v L := by
  obtain ⟨vs, g, h1, h2, h3⟩ := h
  refine ⟨vs, g, ?_, h2, ?_⟩
  · have hlt := owns_lt h1
    obtain ⟨h4, h5⟩ := h1
    refine ⟨h4, ?_⟩
    rcases h5 with h5 | ⟨g', cap, cur, hv, hg, hh, r⟩
    · exact .inl h5
    · refine .inr ⟨g', cap, cur, hv, hg, ?_, r⟩
      have hne : g' ≠ B := by
        rintro rfl
        rw [show W.heap[g']? = _ from b] at hh
        injection hh with hh
        injection hh with _ hh
        exact ht hh.symm
      rw [(Fr.setCell (p := ⟨B, 0, none⟩) (lo := B) (hi := B + 1) (w := W) (Nat.le_refl _) (Nat.lt_succ_self _) u).block g' (hlt g' (by rw [hv]; rfl)).2 (by omega)]; exact hh
  · rw [setCell_size]
    exact Chain.frH (fun _ _ _ _ _ ow => own_setBox ow b u) h3

set_option maxRecDepth 100000 in
set_option maxHeartbeats 4000000 in
theorem impl_gathered (gf : Nat) (lb : Array Value) (eg : ∀ args w, (callFunc gf args).run Try.prog w = .ok (.enter gf args) w) (w : World) (m N S : Nat) (hm : m ≤ w.heap.size) (LL : List (List UInt8))
    (hseq : IterOK Try.prog gf lb m w.heap.size N S w LL) (hN : N ≤ 1099511627777) (hS : S ≤ 140737488355328) :
    Calls Try.prog 33 #[.func (.func gf) #[] lb] w (RetGath m w LL) := by
  refine (callsIn_wide (n := 3)).1 ?_
  refine callsIn_of_wp_marks Try.func33 rfl trivial ?_ rfl
  simp only [Try.ntmps33, List.size_toArray, List.length_cons, List.length_nil, Nat.reduceAdd, Nat.reduceSub, Array.replicate_succ, Array.replicate_zero, List.push_toArray, List.append_toArray, List.nil_append, List.cons_append]
  gi_wp2
  have bO : Boxed ((w.alloc (.cells #[] 22)).alloc (.cells #[.slice (some ⟨w.heap.size, 0, none⟩) 0 0] 23)) (w.heap.size + 1) 23 (.slice (some ⟨w.heap.size, 0, none⟩) 0 0) := by
    have := Boxed.new (w.alloc (.cells #[] 22)) 23 (.slice (some ⟨w.heap.size, 0, none⟩) 0 0)
    rwa [World.size_alloc] at this
  have gO := (GrowL.start w.heap.size 22 w (Nat.le_refl _)).ext (Ext.alloc _ (.cells #[.slice (some ⟨w.heap.size, 0, none⟩) 0 0] 23))
  have xO : Ext w ((w.alloc (.cells #[] 22)).alloc (.cells #[.slice (some ⟨w.heap.size, 0, none⟩) 0 0] 23)) := (Ext.alloc _ _).trans (Ext.alloc _ _)
  have hsz : ((w.alloc (.cells #[] 22)).alloc (.cells #[.slice (some ⟨w.heap.size, 0, none⟩) 0 0] 23)).heap.size = w.heap.size + 2 := by simp
  obtain ⟨w2, hw2⟩ : ∃ w2, ((w.alloc (.cells #[] 22)).alloc (.cells #[.slice (some ⟨w.heap.size, 0, none⟩) 0 0] 23)) = w2 := ⟨_, rfl⟩
  rw [hw2] at bO gO xO hsz ⊢
  obtain ⟨B, hB⟩ : ∃ B, w.heap.size = B := ⟨_, rfl⟩
  rw [hB] at bO gO hsz hm hseq ⊢
  have hx2 : Below m w w2 := xO.below.mono (by omega)
  clear hw2
  refine wpIn_gather (w0 := w) (m := m) (n0 := B) (N := N) (S := S) (LL := LL) rfl eg rfl (by omega) hseq xO
    (fun L W => ∃ out, Boxed W (B + 1) 23 out ∧ GrowL B 22 W out L ∧ Below m w W ∧ B + 2 ≤ W.heap.size) ?hE ?hS ?hP ⟨_, bO, gO, hx2, by omega⟩
    (fun x => { tmps := #[.func (.func gf) #[] lb, undef, .slice none 0 0, .pointer (some ⟨B + 1, 0, none⟩), x, .slice (some ⟨B, 0, none⟩) 0 0, .func (.func gf) #[] lb, x, undef, undef, undef, undef, undef, undef], defers := [] }) ?assign ?body ?done
  case hE =>
    rintro L W W' ⟨out, q1, q2, q3, q4⟩ x
    exact ⟨out, boxed_ext q1 x, q2.ext x, below_ext q3 x (by omega), by have := x.size; omega⟩
  case hS =>
    rintro L W p v ⟨out, q1, q2, q3, q4⟩ h1 h2
    have x : Fr p.block (p.block + 1) W (W.setCell p v) := Fr.setCell (Nat.le_refl _) (by omega) v
    exact ⟨out, boxed_fr q1 x (by omega), q2.fr x (by omega), q3.setCell h1 v, by have := x.size; omega⟩
  case hP =>
    rintro L W k o o' ⟨out, q1, q2, q3, q4⟩ hk ho hc
    refine ⟨out, boxed_putObj q1 o' ho hc, growL_putObj q2 o' ho hc, ?_, by rw [putObj_size]; exact q4⟩
    exact q3.grown (grownBy_putObj' W k o') (by omega) (fun j e => by cases e; omega)
  case assign =>
    intro l x W K hK
    gi_wp2
    exact hK
  case body =>
    rintro l L x t W ⟨out, q1, q2, q3, q4⟩ hb ht hlen
    obtain ⟨vs, hown⟩ := q2.owns
    have HQ1 := Lib.hid q1
    have HQ2 := Lib.hid q2
    have HQ3 := Lib.hid q3
    have HO := Lib.hid hown
    have HBS := Lib.hid hb
    have ht2 : t.length ≤ 140737488355328 := by omega
    have hl2 : L.length + 1 ≤ 1099511627777 := by omega
    clear q1 q2 q3 hown hb hseq eg bO gO xO hx2
    gi_wp2
    refine wpIn_region_mono (by kernel_rfl) [8, 9, 10, 11] (by decide) (by kernel_rfl) (by decide) (by simp) (by kernel_rfl) (by kernel_rfl)
      (fun i => match i with | 0 => (fun v _ => v = out) | 1 => (fun v _ => v = x) | 2 => (fun v w => ∃ W0 W1, Ext W W0 ∧ Own W0.heap.size W1.heap.size W1 v t ∧ Ext W0 W1 ∧ Ext W1 w) | 3 => (fun v w => ∃ W0 W1 W2 u, Ext W W0 ∧ Own W0.heap.size W1.heap.size W1 u t ∧ Ext W0 W1 ∧ Ext W1 W2 ∧ Ext (W2.alloc (.cells #[u] 22)) w ∧ v = .slice (some ⟨W2.heap.size, 0, none⟩) 1 1) | _ => fun _ _ => True) ?stable ?steps ?fin
    case stable =>
      intro i v w' w'' h x
      match i, h with
      | 0, h => exact h
      | 1, h => exact h
      | 2, ⟨W0, W1, a1, a2, a3, a4⟩ => exact ⟨W0, W1, a1, a2, a3, a4.trans x⟩
      | 3, ⟨W0, W1, W2, u, a1, a2, a3, a4, a5, a6⟩ => exact ⟨W0, W1, W2, u, a1, a2, a3, a4, a5.trans x, a6⟩
      | _ + 4, _ => trivial
    case steps =>
      refine AllSteps.cons (fun us hus w' x h => ?_) ?_
      · obtain ⟨u0, t0, e0, s0⟩ := len_cons hus; obtain ⟨u1, t1, e1, s1⟩ := len_cons s0; obtain ⟨u2, t2, e2, s2⟩ := len_cons s1; obtain ⟨u3, t3, e3, s3⟩ := len_cons s2
        obtain rfl := len_nil s3
        clear hus s0 s1 s2 s3
        subst e3 e2 e1 e0
        clear h
        simp only [over, Act.put, List.setIfInBounds_toArray, List.set_cons_zero, List.set_cons_succ]
        have hc := (boxed_ext HQ1.out x).cell
        gi_wp2
        exact postK_normal ⟨_, rfl, rfl, Ext.refl _⟩
      refine AllSteps.cons (fun us hus w' x h => ?_) ?_
      · obtain ⟨u0, t0, e0, s0⟩ := len_cons hus; obtain ⟨u1, t1, e1, s1⟩ := len_cons s0; obtain ⟨u2, t2, e2, s2⟩ := len_cons s1; obtain ⟨u3, t3, e3, s3⟩ := len_cons s2
        obtain rfl := len_nil s3
        clear hus s0 s1 s2 s3
        subst e3 e2 e1 e0
        clear h
        simp only [over, Act.put, List.setIfInBounds_toArray, List.set_cons_zero, List.set_cons_succ]
        gi_wp2
        exact postK_normal ⟨_, rfl, rfl, Ext.refl _⟩
      refine AllSteps.cons (fun us hus w' xx h => ?_) ?_
      · obtain ⟨u0, t0, e0, s0⟩ := len_cons hus; obtain ⟨u1, t1, e1, s1⟩ := len_cons s0; obtain ⟨u2, t2, e2, s2⟩ := len_cons s1; obtain ⟨u3, t3, e3, s3⟩ := len_cons s2
        obtain rfl := len_nil s3
        clear hus s0 s1 s2 s3
        subst e3 e2 e1 e0
        have h1 : u1 = x := h 1 (by kernel_rfl)
        clear h
        subst h1
        simp only [over, Act.put, List.setIfInBounds_toArray, List.set_cons_zero, List.set_cons_succ]
        gi_wp2_with (refine ⟨trivial, ?_⟩; gi_at_call 37; refine (CallsIn.inRound l (callsIn_wide.2 (impl_fresh _ t _ (HBS.out.ext xx) ht2))).mono ?_)
        rintro _ w5 ⟨v5, rfl, o5, x5⟩
        gi_wp2
        exact postK_normal ⟨_, rfl, ⟨_, _, xx, o5, x5, Ext.refl _⟩, x5⟩
      refine AllSteps.cons (fun us hus w' x h => ?_) ?_
      · obtain ⟨u0, t0, e0, s0⟩ := len_cons hus; obtain ⟨u1, t1, e1, s1⟩ := len_cons s0; obtain ⟨u2, t2, e2, s2⟩ := len_cons s1; obtain ⟨u3, t3, e3, s3⟩ := len_cons s2
        obtain rfl := len_nil s3
        clear hus s0 s1 s2 s3
        subst e3 e2 e1 e0
        obtain ⟨W0, W1, a1, a2, a3, a4⟩ : ∃ W0 W1, Ext W W0 ∧ Own W0.heap.size W1.heap.size W1 u2 t ∧ Ext W0 W1 ∧ Ext W1 w' := h 2 (by kernel_rfl)
        clear h
        obtain ⟨ad, c5, e5, _⟩ := id a2
        subst e5
        simp only [over, Act.put, List.setIfInBounds_toArray, List.set_cons_zero, List.set_cons_succ]
        gi_wp2
        exact postK_normal ⟨_, rfl, ⟨W0, W1, w', _, a1, a2, a3, a4, Ext.refl _, rfl⟩, Ext.alloc _ _⟩
      exact AllSteps.nil
    case fin =>
      intro us hus w' xx h
      obtain ⟨u0, t0, e0, s0⟩ := len_cons hus; obtain ⟨u1, t1, e1, s1⟩ := len_cons s0; obtain ⟨u2, t2, e2, s2⟩ := len_cons s1; obtain ⟨u3, t3, e3, s3⟩ := len_cons s2
      obtain rfl := len_nil s3
      clear hus s0 s1 s2 s3
      subst e3 e2 e1 e0
      have h0 : u0 = out := h 0 (by decide)
      obtain ⟨W0, W1, W2, u, a1, a2, a3, a4, a5, a6⟩ : ∃ W0 W1 W2 u, Ext W W0 ∧ Own W0.heap.size W1.heap.size W1 u t ∧ Ext W0 W1 ∧ Ext W1 W2 ∧ Ext (W2.alloc (.cells #[u] 22)) w' ∧ u3 = .slice (some ⟨W2.heap.size, 0, none⟩) 1 1 := h 3 (by decide)
      clear h
      subst h0 a6
      have hu1 : ∀ y ∈ [u], y.oneCell' = true := by
        obtain ⟨a1, c1, rfl, _⟩ := a2
        simp [Value.oneCell']
      have hnews : ∀ j y, [u][j]? = some y → w'.cell? ((⟨W2.heap.size, 0, none⟩ : Addr).add j) = some y := fun j y hy => a5.cell (news_alloc W2 [u] _ j y hy)
      have HA2 := Lib.hid a2
      have bX := boxed_ext HQ1.out xx
      have hw' : B + 2 ≤ w'.heap.size := by have := xx.size; omega
      have OX := owns_keep HO.out xx
      have HBX := Lib.hid bX
      clear a2 bX
      simp only [over, Act.put, List.setIfInBounds_toArray, List.set_cons_zero, List.set_cons_succ, List.length_cons, List.length_nil, Nat.zero_add, Nat.reduceAdd, List.drop_succ_cons, List.drop_zero]
      gi_at_builtin
      refine wpListIn_appendAt rfl 23 _ _ rfl 22 1 24 _ Try.underlying23 info_bytes rfl (by omega) B _ L.length vs rfl OX ⟨W2.heap.size, 0, none⟩ 1 1 [u] rfl rfl hnews hu1 (by omega) (by omega) (by omega) ?_
      intro v3 w3 h3 g3 hat
      obtain ⟨g', cap', e3⟩ := ownsRow_succ h3
      subst e3
      have b3 : Boxed w3 (B + 1) 23 u0 := HBX.out.kept g3 (HBX.out.not_row (by decide) OX)
      have c3 := b3.cell
      have f3 := b3.frozen
      have gN := HQ2.out.snoc2 a1 HA2.out a3 (a4.trans ((Ext.alloc _ _).trans a5)) HO.out h3 g3 hat
      have hk3 : KeepN w' w3 := KeepN.grown OX g3
      have B3 : Below B W w3 := (xx.below.mono (by omega)).grown g3 (by omega) (fun k e => by have := owns_lt OX k e; omega)
      have M3 : Below m w w3 := (below_ext HQ3.out xx (by omega)).grown g3 (by omega) (fun k e => by have := owns_lt OX k e; omega)
      have hs3 := g3.size
      have HGN := Lib.hid gN
      clear gN h3 hat hnews hu1
      gi_wp2
      refine ⟨((KeepN.ext xx).trans hk3).trans (KeepN.setCell c3 _), B3.setCell (p := ⟨B + 1, 0, none⟩) (by dsimp only; omega) _, _, b3.set _, ?_, M3.setCell (p := ⟨B + 1, 0, none⟩) (by dsimp only; omega) _, ?_⟩
      · obtain ⟨a0, n0, c0, e0⟩ : ∃ a n c, u0 = .slice a n c := by
          rcases HO.out.2 with ⟨e, _⟩ | ⟨g, cap, cur, e, _⟩
          · exact ⟨_, _, _, e⟩
          · exact ⟨_, _, _, e⟩
        rw [e0] at b3
        exact HGN.out.setBox b3 (by decide)
      · have : (w3.setCell ⟨B + 1, 0, none⟩ (.slice (some ⟨g', 0, none⟩) (L.length + 1) cap')).heap.size = w3.heap.size := by simp [World.setCell]
        omega
  case done =>
    rintro D W hD ⟨out, q1, q2, q3, q4⟩ hK
    have hc := q1.cell
    gi_wp2
    refine ⟨by simp, .inl ⟨_, _, rfl, run_takeDeferred hK, ?_⟩⟩
    refine ⟨_, results_tmp rfl _ _ _, _, rfl, ?_, ?_⟩
    · have := ownL_putObj q2.ownL (.deferred none) hK rfl
      rw [putObj_size, hB]
      exact this
    · exact q3.grown (grownBy_putObj' W D _) (by omega) (fun j e => by cases e; omega)
end Go.Proofs.Ytlgoeiofachohaa
