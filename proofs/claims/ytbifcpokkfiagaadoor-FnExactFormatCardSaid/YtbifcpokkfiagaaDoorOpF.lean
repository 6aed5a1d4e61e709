/- An argument that is a tree (a slice of structs of a number, of slices, of a string), opened to what lies in memory. Conditions: none. -/
import Derived.Test.YtbifcpokkfiagaaDoorGc
import Derived.Deep.Slices
import Derived.Deep.Fields
import Derived.Deep.Strs
import Derived.ChangeSame
import Derived.Lib.SmallJoins
import Derived.ReadAgain
namespace Go.Proofs.YtbifcpokkfiagaaDoor.F
set_option maxRecDepth 100000
set_option linter.unusedVariables false
open Go.RowKit Go.ChangeShapes Go.WideShapes Go.Deep Go.Joins Go.Proofs.YtbifcpokkfiagaaDoorW.PrintWords Go.Proofs.YtbifcpokkfiagaaDoor.PFm
section
variable {H : Type} {enc : TypeId × Value → H} {w : World} {base : Nat} {spare : Nat → Bool} {held : Bool}

theorem open_row {α : Type} (z : α) (d : Kd α) {t e : TypeId} {fuel : Nat} {cs : List Value} {x : DataW H × List MemPlace} (ht : Tryd.prog.underlying t = some (.slice e)) (hsz : Tryd.prog.cellsOf e = d.sz)
    (hel : ∀ (n : Nat) (cs : List Value) (x : DataW H × List MemPlace), DataW.trod enc Tryd.prog w base spare held n e cs = some x → ∃ a, d.K w a cs)
    (h : DataW.trod enc Tryd.prog w base spare held fuel t cs = some x) : ∃ (A : Option Addr) (c : Nat) (xs : List α), cs = [.slice A xs.length c] ∧ xs.length ≤ c ∧ Kd.C d w A xs.length xs := by
  rcases open_slice ht h with ⟨rfl, _⟩ | ⟨a, len, cap, m, n, D, Pl, rfl, hb, hl, hm, hmm, _, hi⟩
  · exact ⟨none, 0, [], rfl, Nat.le_refl _, rfl, by simp, fun h => absurd h (by simp)⟩
  · have hlm : len ≤ m := by rw [hmm]; split <;> omega
    haveI : Inhabited α := ⟨z⟩
    obtain ⟨f, hf⟩ := choose_lt (n := len) (p := fun i (p : α) => ∃ c : List Value, c.length = d.sz ∧ d.K w p c ∧ ∀ k u, c[k]? = some u → w.cell? (a.add (i * d.sz + k)) = some u) (fun i hi' => by
      obtain ⟨cs', h1, h2⟩ := hi i (by omega)
      obtain ⟨p, hp⟩ := hel _ _ _ h2
      obtain ⟨_, hlen, hc⟩ := World.cells?_some h1
      rw [hsz] at hlen hc
      refine ⟨p, cs', hlen, hp, fun k u hk => ?_⟩
      have hkl : k < d.sz := by have := (List.getElem?_eq_some_iff.1 hk).1; omega
      rw [← Go.Deep.add_add, hc k hkl]
      exact hk)
    have hlen : ((List.range len).map f).length = len := by simp
    refine ⟨some a, cap, (List.range len).map f, by rw [hlen], by rw [hlen]; exact hl, ?_⟩
    rw [hlen]
    refine ⟨hlen, by unfold maxLen at hm; omega, fun _ => ⟨a, rfl, fun j p hj => ?_⟩⟩
    have hjl : j < len := by have := (List.getElem?_eq_some_iff.1 hj).1; omega
    have e : p = f j := by
      rw [List.getElem?_map, List.getElem?_range hjl] at hj
      exact (Option.some.inj hj).symm
    rw [e]
    exact hf j hjl

theorem one9 : Tryd.prog.cellsOf 9 = 1 := by kernel_rfl
theorem one3 : Tryd.prog.cellsOf 3 = 1 := by kernel_rfl
theorem one27 : Tryd.prog.cellsOf 27 = 1 := by kernel_rfl
theorem one28 : Tryd.prog.cellsOf 28 = 1 := by kernel_rfl
theorem c35 : Tryd.prog.cellsOf 35 = 3 := by kernel_rfl
theorem c30 : Tryd.prog.cellsOf 30 = 5 := by kernel_rfl

theorem el_string (n : Nat) (cs : List Value) (x : DataW H × List MemPlace) (h : DataW.trod enc Tryd.prog w base spare held n 9 cs = some x) : ∃ a, Kd.string.K w a cs := by
  obtain ⟨s, rfl, _⟩ := DataW.trod_string Tryd.underlying9 h
  exact ⟨s, rfl⟩

theorem el_35 (n : Nat) (cs : List Value) (x : DataW H × List MemPlace) (h : DataW.trod enc Tryd.prog w base spare held n 35 cs = some x) : ∃ a, k35.K w a cs := by
  obtain ⟨y0, y1, y2, m, _, hl, h0, h1, h2⟩ := trod_struct3 Tryd.underlying35 h
  rw [c35] at hl
  match cs, hl with
  | [u0, u1, u2], _ =>
    simp only [one9, one27, List.drop_zero, List.take_succ_cons, List.take_zero, List.drop_succ_cons] at h0 h1 h2
    obtain ⟨A0, b0, l0, e0, m0, g0⟩ := open_row ByteArray.empty Kd.string Tryd.underlying27 one9 el_string h0
    obtain ⟨A1, b1, l1, e1, m1, g1⟩ := open_row ByteArray.empty Kd.string Tryd.underlying27 one9 el_string h1
    obtain ⟨s2, e2, _⟩ := DataW.trod_string Tryd.underlying9 h2
    rw [(List.cons.inj e0).1, (List.cons.inj e1).1, (List.cons.inj e2).1]
    exact ⟨⟨l0, l1, s2⟩, k35_mk w ⟨l0, l1, s2⟩ m0 g0 m1 g1⟩

theorem trod_struct5 {P : Program} {t : TypeId} {f0 f1 f2 f3 f4 : Field} {fuel : Nat} {cs : List Value} {x : DataW H × List MemPlace} (ht : P.underlying t = some (.struct #[f0, f1, f2, f3, f4])) (h : DataW.trod enc P w base spare held fuel t cs = some x) :
    ∃ y0 y1 y2 y3 y4 n, cs.length = P.cellsOf t ∧ DataW.trod enc P w base spare held n f0.type ((cs.drop f0.offset).take (P.cellsOf f0.type)) = some y0 ∧
      DataW.trod enc P w base spare held n f1.type ((cs.drop f1.offset).take (P.cellsOf f1.type)) = some y1 ∧ DataW.trod enc P w base spare held n f2.type ((cs.drop f2.offset).take (P.cellsOf f2.type)) = some y2 ∧
      DataW.trod enc P w base spare held n f3.type ((cs.drop f3.offset).take (P.cellsOf f3.type)) = some y3 ∧ DataW.trod enc P w base spare held n f4.type ((cs.drop f4.offset).take (P.cellsOf f4.type)) = some y4 := by
  obtain ⟨xs, n, _, rfl, hl, hlen, hf⟩ := DataW.trod_struct ht h
  match xs, hlen with
  | [y0, y1, y2, y3, y4], _ => exact ⟨y0, y1, y2, y3, y4, n, hl, by simpa using hf 0 f0 rfl, by simpa using hf 1 f1 rfl, by simpa using hf 2 f2 rfl, by simpa using hf 3 f3 rfl, by simpa using hf 4 f4 rfl⟩

theorem el_30 (n : Nat) (cs : List Value) (x : DataW H × List MemPlace) (h : DataW.trod enc Tryd.prog w base spare held n 30 cs = some x) : ∃ a, k30.K w a cs := by
  obtain ⟨y0, y1, y2, y3, y4, m, hl, h0, h1, h2, h3, h4⟩ := trod_struct5 Tryd.underlying30 h
  rw [c30] at hl
  match cs, hl with
  | [u0, u1, u2, u3, u4], _ =>
    simp only [one3, one9, one27, one28, List.drop_zero, List.take_succ_cons, List.take_zero, List.drop_succ_cons] at h0 h1 h2 h3 h4
    obtain ⟨n0, e0, _, _⟩ := DataW.trod_int Tryd.underlying3 h0
    obtain ⟨A1, b1, l1, e1, m1, g1⟩ := open_row ByteArray.empty Kd.string Tryd.underlying27 one9 el_string h1
    obtain ⟨A2, b2, l2, e2, m2, g2⟩ := open_row z35 k35 Tryd.underlying28 c35 el_35 h2
    obtain ⟨A3, b3, l3, e3, m3, g3⟩ := open_row ByteArray.empty Kd.string Tryd.underlying27 one9 el_string h3
    obtain ⟨s4, e4, _⟩ := DataW.trod_string Tryd.underlying9 h4
    rw [(List.cons.inj e0).1, (List.cons.inj e1).1, (List.cons.inj e2).1, (List.cons.inj e3).1, (List.cons.inj e4).1]
    exact ⟨⟨n0, l1, l2, l3, s4⟩, k30_mk w ⟨n0, l1, l2, l3, s4⟩ m1 g1 m2 g2 m3 g3⟩

end

/-- What a call reads of a tree that came in. -/
theorem open_tree {H : Type} {enc : TypeId × Value → H} {w : World} {r : Reach} {b0 : Nat} {v : Value} {d : DataW H} {p : List MemPlace} (hv : Value.okWide Tryd.prog w r b0 22 v) (h : DataW.Trod enc Tryd.prog w 0 (fun _ => true) true 22 v d p) :
    ∃ (A : Option Addr) (c : Nat) (l : List S30), v = .slice A l.length c ∧ l.length ≤ c ∧ Kd.C k30 w A l.length l := by
  obtain ⟨a, len, cap, rfl⟩ := okWide_slice Tryd.underlying22 hv
  obtain ⟨n, hf⟩ := h
  obtain ⟨A, c, l, e, m, g⟩ := open_row z30 k30 Tryd.underlying22 c30 el_30 hf
  have e' : (Value.slice a len cap) = .slice A l.length c := by
    have h2 : [Value.slice a len cap] = [.slice A l.length c] := e
    exact (List.cons.inj h2).1
  exact ⟨A, c, l, e', m, g⟩

/-! ### the arguments read again -/

theorem kids : Kids Tryd.prog (· < Tryd.prog.types.size) := kids_rows (by kernel_rfl) (by kernel_rfl)
theorem full : ∀ t e, t < Tryd.prog.types.size → Tryd.prog.underlying t = some (.slice e) → 0 < Tryd.prog.cellsOf e := slices_full_of Tryd.prog (by kernel_rfl)

theorem same_of_below {w w' : World} (hb : Below w.heap.size w w') (p : MemPlace) (hp : p.block < w.heap.size) : w.sameAt w' p := by
  cases p with
  | cell b o => exact hb.cell (p := ⟨b, o, none⟩) hp
  | map b => exact hb.block b hp

theorem trodAll_below {H : Type} {enc : TypeId × Value → H} {w w' : World} (hb : Below w.heap.size w w') {spare : Nat → Bool} {held : Bool} : ∀ {ts : List TypeId} {vs : List Value} {ds : List (DataW H)} {ps : List MemPlace},
    DataW.TrodAll enc Tryd.prog w 0 spare held ts vs ds ps → DataW.TrodAll enc Tryd.prog w' 0 spare held ts vs ds ps
  | [], [], [], _, h => h
  | _ :: _, _ :: _, _ :: _, _, ⟨p, q, ⟨n, h1⟩, h2, e⟩ =>
    ⟨p, q, ⟨n, DataW.trod_carry n _ _ _ h1 (fun x hx => same_of_below hb x (DataW.trod_lt n _ _ _ h1 x hx))⟩, trodAll_below hb h2, e⟩

end Go.Proofs.YtbifcpokkfiagaaDoor.F
