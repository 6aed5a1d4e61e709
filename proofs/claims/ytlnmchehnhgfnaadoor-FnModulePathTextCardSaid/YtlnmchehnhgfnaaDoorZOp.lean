/- An argument that is a content (a struct of strings and of slices of structs), opened to what lies in memory. Conditions: none. -/
import Derived.Test.YtlnmchehnhgfnaaDoorZTd
import Derived.Deep.Slices
import Derived.Deep.Fields
import Derived.Deep.Strs
import Derived.ChangeSame
import Derived.Lib.SmallJoins
import Derived.ReadAgain
namespace Go.Proofs.YtlnmchehnhgfnaaDoor.M
set_option maxRecDepth 100000
open Go.RowKit Go.ChangeShapes Go.WideShapes Go.Deep Go.Joins Go.Proofs.YtlnmchehnhgfnaaDoorW.PrintWords Go.Proofs.YtlnmchehnhgfnaaDoor.PCont
section
variable {H : Type} {enc : TypeId × Value → H} {w : World} {base : Nat} {spare : Nat → Bool} {held : Bool}
theorem open_row {α : Type} (z : α) (d : Kd α) {t e : TypeId} {fuel : Nat} {cs : List Value} {x : DataW H × List MemPlace} (ht : Tryd.prog.underlying t = some (.slice e)) (hsz : Tryd.prog.cellsOf e = d.sz)
    (hel : ∀ (n : Nat) (cs : List Value) (x : DataW H × List MemPlace), DataW.trod enc Tryd.prog w base spare held n e cs = some x → ∃ a, d.K w a cs)
    (h : DataW.trod enc Tryd.prog w base spare held fuel t cs = some x) : ∃ (A : Option Addr) (c : Nat) (xs : List α), cs = [.slice A xs.length c] ∧ xs.length ≤ c ∧ Kd.C d w A xs.length xs := by
  rcases open_slice ht h with ⟨rfl, _⟩ | ⟨a, len, cap, m, n, D, Pl, rfl, hb, hl, hm, hmm, _, hi⟩
  · exact ⟨none, 0, [], rfl, Nat.le_refl _, rfl, by simp, fun h => absurd h (by simp)⟩
  · have hlm : len ≤ m := by rw [hmm]; split <;> omega
    haveI : Inhabited α := ⟨z⟩
    obtain ⟨f, hf⟩ := choose_lt (n := len) (p := fun i (p : α) => ∃ c : List Value, c.length = d.sz ∧ d.K w p c ∧ ∀ k u, c[k]? = some u → w.cell? (a.add (i * d.sz + k)) = some u) (fun i hi' => by
      obtain ⟨cs', h1, h2⟩ := hi i (by omega)
      obtain ⟨p, hp⟩ := hel _ _ _ h2
      obtain ⟨_, hlen, hc⟩ := World.cells?_some h1
      rw [hsz] at hlen hc
      refine ⟨p, cs', hlen, hp, fun k u hk => ?_⟩
      have hkl : k < d.sz := by have := (List.getElem?_eq_some_iff.1 hk).1; omega
      rw [← Go.Deep.add_add, hc k hkl]
      exact hk)
    have hlen : ((List.range len).map f).length = len := by simp
    refine ⟨some a, cap, (List.range len).map f, by rw [hlen], by rw [hlen]; exact hl, ?_⟩
    rw [hlen]
    refine ⟨hlen, by unfold maxLen at hm; omega, fun _ => ⟨a, rfl, fun j p hj => ?_⟩⟩
    have hjl : j < len := by have := (List.getElem?_eq_some_iff.1 hj).1; omega
    have e : p = f j := by
      rw [List.getElem?_map, List.getElem?_range hjl] at hj
      exact (Option.some.inj hj).symm
    rw [e]
    exact hf j hjl
theorem one9 : Tryd.prog.cellsOf 9 = 1 := by kernel_rfl
theorem one4 : Tryd.prog.cellsOf 4 = 1 := by kernel_rfl
theorem c46 : Tryd.prog.cellsOf 46 = 3 := by kernel_rfl
theorem c48 : Tryd.prog.cellsOf 48 = 2 := by kernel_rfl
theorem c50 : Tryd.prog.cellsOf 50 = 4 := by kernel_rfl
theorem c53 : Tryd.prog.cellsOf 53 = 3 := by kernel_rfl
theorem el_string (n : Nat) (cs : List Value) (x : DataW H × List MemPlace) (h : DataW.trod enc Tryd.prog w base spare held n 9 cs = some x) : ∃ a, Kd.string.K w a cs := by
  obtain ⟨s, rfl, _⟩ := DataW.trod_string Tryd.underlying9 h
  exact ⟨s, rfl⟩
theorem el_46 (n : Nat) (cs : List Value) (x : DataW H × List MemPlace) (h : DataW.trod enc Tryd.prog w base spare held n 46 cs = some x) : ∃ a, k46.K w a cs := by
  obtain ⟨y0, y1, y2, m, _, hl, h0, h1, h2⟩ := trod_struct3 Tryd.underlying46 h
  rw [c46] at hl
  match cs, hl with
  | [u0, u1, u2], _ =>
    simp only [one9, one4, List.drop_zero, List.take_succ_cons, List.take_zero, List.drop_succ_cons] at h0 h1 h2
    obtain ⟨s0, e0, _⟩ := DataW.trod_string Tryd.underlying9 h0
    obtain ⟨s1, e1, _⟩ := DataW.trod_string Tryd.underlying9 h1
    obtain ⟨b2, e2, _⟩ := DataW.trod_bool Tryd.underlying4 h2
    rw [(List.cons.inj e0).1, (List.cons.inj e1).1, (List.cons.inj e2).1]
    exact ⟨⟨s0, s1, b2⟩, k46_mk w ⟨s0, s1, b2⟩⟩
theorem el_48 (n : Nat) (cs : List Value) (x : DataW H × List MemPlace) (h : DataW.trod enc Tryd.prog w base spare held n 48 cs = some x) : ∃ a : S48, cs = [.string a.f0, .string a.f1] := by
  obtain ⟨y0, y1, m, _, hl, h0, h1⟩ := trod_struct2 Tryd.underlying48 h
  rw [c48] at hl
  match cs, hl with
  | [u0, u1], _ =>
    simp only [one9, List.drop_zero, List.take_succ_cons, List.take_zero, List.drop_succ_cons] at h0 h1
    obtain ⟨s0, e0, _⟩ := DataW.trod_string Tryd.underlying9 h0
    obtain ⟨s1, e1, _⟩ := DataW.trod_string Tryd.underlying9 h1
    rw [(List.cons.inj e0).1, (List.cons.inj e1).1]
    exact ⟨⟨s0, s1⟩, rfl⟩
theorem el_48k (n : Nat) (cs : List Value) (x : DataW H × List MemPlace) (h : DataW.trod enc Tryd.prog w base spare held n 48 cs = some x) : ∃ a, k48.K w a cs := by
  obtain ⟨a, rfl⟩ := el_48 n cs x h
  exact ⟨a, k48_mk w a⟩
theorem el_50 (n : Nat) (cs : List Value) (x : DataW H × List MemPlace) (h : DataW.trod enc Tryd.prog w base spare held n 50 cs = some x) : ∃ a, k50.K w a cs := by
  obtain ⟨y0, y1, m, _, hl, h0, h1⟩ := trod_struct2 Tryd.underlying50 h
  rw [c50] at hl
  match cs, hl with
  | [u0, u1, u2, u3], _ =>
    simp only [c48, List.drop_zero, List.take_succ_cons, List.take_zero, List.drop_succ_cons] at h0 h1
    obtain ⟨a, e0⟩ := el_48 m _ _ h0
    obtain ⟨b, e1⟩ := el_48 m _ _ h1
    obtain ⟨a1, a2⟩ := List.cons.inj e0
    obtain ⟨b1, b2⟩ := List.cons.inj e1
    rw [a1, (List.cons.inj a2).1, b1, (List.cons.inj b2).1]
    exact ⟨⟨a, b⟩, k50_mk w ⟨a, b⟩⟩
theorem el_53 (n : Nat) (cs : List Value) (x : DataW H × List MemPlace) (h : DataW.trod enc Tryd.prog w base spare held n 53 cs = some x) : ∃ a, k53.K w a cs := by
  obtain ⟨y0, y1, y2, m, _, hl, h0, h1, h2⟩ := trod_struct3 Tryd.underlying53 h
  rw [c53] at hl
  match cs, hl with
  | [u0, u1, u2], _ =>
    simp only [one9, List.drop_zero, List.take_succ_cons, List.take_zero, List.drop_succ_cons] at h0 h1 h2
    obtain ⟨s0, e0, _⟩ := DataW.trod_string Tryd.underlying9 h0
    obtain ⟨s1, e1, _⟩ := DataW.trod_string Tryd.underlying9 h1
    obtain ⟨s2, e2, _⟩ := DataW.trod_string Tryd.underlying9 h2
    rw [(List.cons.inj e0).1, (List.cons.inj e1).1, (List.cons.inj e2).1]
    exact ⟨⟨s0, s1, s2⟩, k53_mk w ⟨s0, s1, s2⟩⟩
theorem open_agg9 {P : Program} {r : Reach} {b0 : Nat} {t : TypeId} {f0 f1 f2 f3 f4 f5 f6 f7 f8 : Field} {v : Value} {d : DataW H} {p : List MemPlace} (hs : P.underlying t = some (.struct #[f0, f1, f2, f3, f4, f5, f6, f7, f8])) (hone : oneCellFields P #[f0, f1, f2, f3, f4, f5, f6, f7, f8] = true) (hC : P.cellsOf t = 9)
    (hv : Value.okWide P w r b0 t v) (h : DataW.Trod enc P w base spare held t v d p) :
    ∃ (v0 v1 v2 v3 v4 v5 v6 v7 v8 : Value) (y0 y1 y2 y3 y4 y5 y6 y7 y8 : DataW H × List MemPlace) (n : Nat), v = .agg #[v0, v1, v2, v3, v4, v5, v6, v7, v8] ∧ DataW.trod enc P w base spare held n f0.type [v0] = some y0 ∧ DataW.trod enc P w base spare held n f1.type [v1] = some y1 ∧ DataW.trod enc P w base spare held n f2.type [v2] = some y2 ∧ DataW.trod enc P w base spare held n f3.type [v3] = some y3 ∧ DataW.trod enc P w base spare held n f4.type [v4] = some y4 ∧ DataW.trod enc P w base spare held n f5.type [v5] = some y5 ∧ DataW.trod enc P w base spare held n f6.type [v6] = some y6 ∧ DataW.trod enc P w base spare held n f7.type [v7] = some y7 ∧ DataW.trod enc P w base spare held n f8.type [v8] = some y8 := by
  obtain ⟨cs, rfl, hsz⟩ := okWide_struct hs hv
  obtain ⟨l⟩ := cs
  match l, hsz.trans hC with
  | [c0, c1, c2, c3, c4, c5, c6, c7, c8], _ =>
    obtain ⟨fuel, hf⟩ := h
    obtain ⟨xs, n, _, hx, _, hlen, hg⟩ := DataW.trod_struct hs hf
    obtain ⟨o0, k0⟩ := hone_of hone 0 f0 rfl
    obtain ⟨o1, k1⟩ := hone_of hone 1 f1 rfl
    obtain ⟨o2, k2⟩ := hone_of hone 2 f2 rfl
    obtain ⟨o3, k3⟩ := hone_of hone 3 f3 rfl
    obtain ⟨o4, k4⟩ := hone_of hone 4 f4 rfl
    obtain ⟨o5, k5⟩ := hone_of hone 5 f5 rfl
    obtain ⟨o6, k6⟩ := hone_of hone 6 f6 rfl
    obtain ⟨o7, k7⟩ := hone_of hone 7 f7 rfl
    obtain ⟨o8, k8⟩ := hone_of hone 8 f8 rfl
    match xs, hlen with
    | [y0, y1, y2, y3, y4, y5, y6, y7, y8], _ =>
      exact ⟨c0, c1, c2, c3, c4, c5, c6, c7, c8, y0, y1, y2, y3, y4, y5, y6, y7, y8, n, rfl, by simpa [Value.cells, o0, k0] using hg 0 f0 rfl, by simpa [Value.cells, o1, k1] using hg 1 f1 rfl, by simpa [Value.cells, o2, k2] using hg 2 f2 rfl, by simpa [Value.cells, o3, k3] using hg 3 f3 rfl, by simpa [Value.cells, o4, k4] using hg 4 f4 rfl, by simpa [Value.cells, o5, k5] using hg 5 f5 rfl, by simpa [Value.cells, o6, k6] using hg 6 f6 rfl, by simpa [Value.cells, o7, k7] using hg 7 f7 rfl, by simpa [Value.cells, o8, k8] using hg 8 f8 rfl⟩
end
/-- What a call reads of a content that came in. -/
theorem open_content {H : Type} {enc : TypeId × Value → H} {w : World} {r : Reach} {b0 : Nat} {v : Value} {d : DataW H} {p : List MemPlace} (hv : Value.okWide Tryd.prog w r b0 32 v) (h : DataW.Trod enc Tryd.prog w 0 (fun _ => true) true 32 v d p) :
    ∃ (s0 s1 s2 : ByteArray) (A3 A4 A5 A6 A7 A8 : Option Addr) (c3 c4 c5 c6 c7 c8 : Nat) (l3 : List S46) (l4 : List S48) (l5 : List S50) (l6 : List S53) (l7 l8 : List ByteArray),
      v = .agg #[.string s0, .string s1, .string s2, .slice A3 l3.length c3, .slice A4 l4.length c4, .slice A5 l5.length c5, .slice A6 l6.length c6, .slice A7 l7.length c7, .slice A8 l8.length c8] ∧
      Kd.C k46 w A3 l3.length l3 ∧ l3.length ≤ c3 ∧ Kd.C k48 w A4 l4.length l4 ∧ l4.length ≤ c4 ∧ Kd.C k50 w A5 l5.length l5 ∧ l5.length ≤ c5 ∧ Kd.C k53 w A6 l6.length l6 ∧ l6.length ≤ c6 ∧ Kd.C Kd.string w A7 l7.length l7 ∧ l7.length ≤ c7 ∧ Kd.C Kd.string w A8 l8.length l8 ∧ l8.length ≤ c8 := by
  obtain ⟨v0, v1, v2, v3, v4, v5, v6, v7, v8, y0, y1, y2, y3, y4, y5, y6, y7, y8, n, rfl, h0, h1, h2, h3, h4, h5, h6, h7, h8⟩ := open_agg9 Tryd.underlying32 (by kernel_rfl) (by kernel_rfl) hv h
  obtain ⟨s0, e0, _⟩ := DataW.trod_string Tryd.underlying9 h0
  obtain ⟨s1, e1, _⟩ := DataW.trod_string Tryd.underlying9 h1
  obtain ⟨s2, e2, _⟩ := DataW.trod_string Tryd.underlying9 h2
  obtain ⟨A3, c3, l3, e3, m3, k3⟩ := open_row z46 k46 Tryd.underlying26 c46 el_46 h3
  obtain ⟨A4, c4, l4, e4, m4, k4⟩ := open_row z48 k48 Tryd.underlying27 c48 el_48k h4
  obtain ⟨A5, c5, l5, e5, m5, k5⟩ := open_row z50 k50 Tryd.underlying28 c50 el_50 h5
  obtain ⟨A6, c6, l6, e6, m6, k6⟩ := open_row z53 k53 Tryd.underlying29 c53 el_53 h6
  obtain ⟨A7, c7, l7, e7, m7, k7⟩ := open_row ByteArray.empty Kd.string Tryd.underlying30 one9 el_string h7
  obtain ⟨A8, c8, l8, e8, m8, k8⟩ := open_row ByteArray.empty Kd.string Tryd.underlying30 one9 el_string h8
  rw [(List.cons.inj e0).1, (List.cons.inj e1).1, (List.cons.inj e2).1, (List.cons.inj e3).1, (List.cons.inj e4).1, (List.cons.inj e5).1, (List.cons.inj e6).1, (List.cons.inj e7).1, (List.cons.inj e8).1]
  exact ⟨s0, s1, s2, A3, A4, A5, A6, A7, A8, c3, c4, c5, c6, c7, c8, l3, l4, l5, l6, l7, l8, rfl, k3, m3, k4, m4, k5, m5, k6, m6, k7, m7, k8, m8⟩
theorem kids : Kids Tryd.prog (· < Tryd.prog.types.size) := kids_rows (by kernel_rfl) (by kernel_rfl)
theorem full : ∀ t e, t < Tryd.prog.types.size → Tryd.prog.underlying t = some (.slice e) → 0 < Tryd.prog.cellsOf e := slices_full_of Tryd.prog (by kernel_rfl)
theorem same_of_below {w w' : World} (hb : Below w.heap.size w w') (p : MemPlace) (hp : p.block < w.heap.size) : w.sameAt w' p := by
  cases p with
  | cell b o => exact hb.cell (p := ⟨b, o, none⟩) hp
  | map b => exact hb.block b hp
theorem trodAll_below {H : Type} {enc : TypeId × Value → H} {w w' : World} (hb : Below w.heap.size w w') {spare : Nat → Bool} {held : Bool} : ∀ {ts : List TypeId} {vs : List Value} {ds : List (DataW H)} {ps : List MemPlace},
    DataW.TrodAll enc Tryd.prog w 0 spare held ts vs ds ps → DataW.TrodAll enc Tryd.prog w' 0 spare held ts vs ds ps
  | [], [], [], _, h => h
  | _ :: _, _ :: _, _ :: _, _, ⟨p, q, ⟨n, h1⟩, h2, e⟩ =>
    ⟨p, q, ⟨n, DataW.trod_carry n _ _ _ h1 (fun x hx => same_of_below hb x (DataW.trod_lt n _ _ _ h1 x hx))⟩, trodAll_below hb h2, e⟩
end Go.Proofs.YtlnmchehnhgfnaaDoor.M
