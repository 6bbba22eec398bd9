import Derived.Test.Qxb6617582aProg
import Derived.WalkKit
import Derived.BigQuiet
import Derived.Deep.QuietTactic
import Derived.Deep.OwnRows
import Derived.WalkSpells
import Derived.WalkSmall
import Derived.Maps.RangeWalk
import Derived.Maps.OwnOps
import Derived.DeepKeys4
import Derived.Laws.StructEq
namespace Go.Proofs.Qxb6617582a
open Go.RowKit Go.Maps
set_option maxHeartbeats 1000000
set_option maxRecDepth 100000
theorem law35 : Keyed Try.prog 35 := Keyed.of_law (deep_law_laid (m := 3) (by kernel_rfl) (by decide) (of_decide_eq_true (by kernel_rfl)) (by kernel_rfl) (by kernel_rfl))
/-- a key -/
def kv (s : ByteArray) (p q : Int) : Value := .agg #[.string s, .int .i64 p, .int .i64 q]
/-- a field's type, its place, and whether it is blank -/
def fview (f : Field) : TypeId × Nat × Bool := (f.type, f.offset, f.name == "_")
theorem two_of_map {l : List Field} {x y : TypeId × Nat × Bool} (h : l.map fview = [x, y]) : ∃ f g, l = [f, g] ∧ fview f = x ∧ fview g = y := by
  match l, h with
  | [f, g], h =>
    simp at h
    exact ⟨f, g, rfl, h.1, h.2⟩
theorem view_of {f : Field} {t o : Nat} (h : fview f = (t, o, false)) : f.type = t ∧ f.offset = o ∧ f.name ≠ "_" := by
  unfold fview at h
  simp at h
  exact h
theorem fields_33 : ∃ f g, (Try.prog.fieldsOf 33).toList = [f, g] ∧ (f.type = 3 ∧ f.offset = 0 ∧ f.name ≠ "_") ∧ (g.type = 3 ∧ g.offset = 1 ∧ g.name ≠ "_") := by
  obtain ⟨f, g, h, h1, h2⟩ := two_of_map (l := (Try.prog.fieldsOf 33).toList) (x := (3, 0, false)) (y := (3, 1, false)) (by kernel_rfl)
  exact ⟨f, g, h, view_of h1, view_of h2⟩
theorem fields_35 : ∃ f g, (Try.prog.fieldsOf 35).toList = [f, g] ∧ (f.type = 9 ∧ f.offset = 0 ∧ f.name ≠ "_") ∧ (g.type = 33 ∧ g.offset = 1 ∧ g.name ≠ "_") := by
  obtain ⟨f, g, h, h1, h2⟩ := two_of_map (l := (Try.prog.fieldsOf 35).toList) (x := (9, 0, false)) (y := (33, 1, false)) (by kernel_rfl)
  exact ⟨f, g, h, view_of h1, view_of h2⟩
theorem key_ok (s : ByteArray) (p q : Int) (hs : s.size ≤ maxLen) (hp : (Lit.int .i64 p).wf = true) (hq : (Lit.int .i64 q).wf = true) : ∃ l, keyOf Try.prog 35 (kv s p q) = some l := by
  refine ⟨.string (keyBytes [.string s.data.toList, .int .i64 p, .int .i64 q]), ?_⟩
  have hu : Try.prog.underlying 35 = some (.struct (Try.prog.fieldsOf 35)) := by kernel_rfl
  have hu2 : Try.prog.underlying 33 = some (.struct (Try.prog.fieldsOf 33)) := by kernel_rfl
  have hkt : Try.prog.keyType 35 = true := by kernel_rfl
  have hc : Try.prog.cellsOf 35 = 3 := by kernel_rfl
  have hc2 : Try.prog.cellsOf 33 = 2 := by kernel_rfl
  have hc3 : Try.prog.cellsOf 9 = 1 := by kernel_rfl
  have hc4 : Try.prog.cellsOf 3 = 1 := by kernel_rfl
  have ha : (Try.prog.fieldsOf 35).all (·.name != "_") = true := by kernel_rfl
  have ha2 : (Try.prog.fieldsOf 33).all (·.name != "_") = true := by kernel_rfl
  obtain ⟨f, g, hf, ⟨ft, fo, -⟩, gt, go, -⟩ := fields_35
  obtain ⟨f2, g2, hf2, ⟨ft2, fo2, -⟩, gt2, go2, -⟩ := fields_33
  obtain ⟨m, hn⟩ : ∃ m, Try.prog.types.size = m + 3 := ⟨Try.prog.types.size - 3, by have : 3 ≤ Try.prog.types.size := of_decide_eq_true (by kernel_rfl); omega⟩
  unfold keyOf kv
  simp only [hu]
  rw [if_pos (by simp [hkt, Value.formed, hu, hc]), hn]
  have k3 : Try.prog.keyLits (m + 3) 9 [.string s] = some [.string s.data.toList] := by
    unfold Program.keyLits
    simp [Try.underlying9, hs]
  have k5 : Try.prog.keyLits (m + 2) 3 [.int .i64 p] = some [.int .i64 p] := by
    unfold Program.keyLits
    simp [Try.underlying3, hp]
  have k6 : Try.prog.keyLits (m + 2) 3 [.int .i64 q] = some [.int .i64 q] := by
    unfold Program.keyLits
    simp [Try.underlying3, hq]
  have k4 : Try.prog.keyLits (m + 3) 33 [.int .i64 p, .int .i64 q] = some [.int .i64 p, .int .i64 q] := by
    unfold Program.keyLits
    simp only [hu2]
    rw [if_pos ⟨by rw [hc2]; rfl, ha2⟩, hf2]
    simp [ft2, fo2, gt2, go2, hc4, k5, k6]
  unfold Program.keyLits
  simp only [hu]
  rw [if_pos ⟨by rw [hc]; rfl, ha⟩, hf]
  simp [ft, fo, gt, go, Value.cells, hc3, hc2, k3, k4]
theorem kv_inj {s s' : ByteArray} {p p' q q' : Int} (h : kv s p q = kv s' p' q') : s = s' ∧ p = p' ∧ q = q' := by
  unfold kv at h
  simpa using h
theorem fields33 (w : World) (d : Nat) (a b c e : Int) {f g : Field} (hf : f.type = 3 ∧ f.offset = 0 ∧ f.name ≠ "_") (hg : g.type = 3 ∧ g.offset = 1 ∧ g.name ≠ "_") : (Op.eqFields (d + 1) #[.int .i64 a, .int .i64 b] #[.int .i64 c, .int .i64 e] [f, g]).run Try.prog w = .ok (a == c && b == e) w := by
  obtain ⟨f1, f2, f3⟩ := hf
  obtain ⟨g1, g2, g3⟩ := hg
  by_cases h1 : a = c
  · by_cases h2 : b = e <;> simp [Op.eqFields, go_sem, f1, f2, f3, g1, g2, g3, h1, h2]
  · simp [Op.eqFields, go_sem, f1, f2, f3, h1]
theorem neq33 (w : World) (a b c e : Int) : (binOp .neq 33 (.agg #[.int .i64 a, .int .i64 b]) (.agg #[.int .i64 c, .int .i64 e])).run Try.prog w = .ok (.bool (!(a == c && b == e))) w := by
  have hu : Try.prog.underlying 33 = some (.struct (Try.prog.fieldsOf 33)) := by kernel_rfl
  have hp : Try.prog.stoodInHeld 33 = false := by kernel_rfl
  obtain ⟨f, g, h, hf, hg⟩ := fields_33
  rw [run_neq_struct, run_equalIn_agg w 9999 33 _ _ hu hp, h, fields33 w 9998 a b c e hf hg]
  rfl
/-- the keys that a set holds -/
def KS (ss : Nat → ByteArray) (pp qq : Nat → Int) (m : Nat) (v : Value) : Prop := ∃ i, i < m ∧ v = kv (ss i) (pp i) (qq i)
/-- what a key may hold -/
def KOk (ss : Nat → ByteArray) (pp qq : Nat → Int) (i : Nat) : Prop := (ss i).size ≤ maxLen ∧ (Lit.int .i64 (pp i)).wf = true ∧ (Lit.int .i64 (qq i)).wf = true
def KHas (ss : Nat → ByteArray) (pp qq : Nat → Int) (m : Nat) (D : DataW Unit) : Prop := ∀ v l, keyOf Try.prog 35 v = some l → (Maps.has D l = true ↔ KS ss pp qq m v)
def KeyMap (w : World) (b : Nat) (ss : Nat → ByteArray) (pp qq : Nat → Int) (m : Nat) : Prop :=
  ∃ D : DataW Unit, w.ownsMap Try.prog 35 (plainElem Try.prog 4) b m D ∧ KHas ss pp qq m D
theorem KeyMap.lt {w : World} {b m : Nat} {ss : Nat → ByteArray} {pp qq : Nat → Int} (h : KeyMap w b ss pp qq m) : b < w.heap.size := by
  obtain ⟨D, h1, -⟩ := h
  exact h1.lt
theorem KeyMap.of_block {w w' : World} {b m : Nat} {ss : Nat → ByteArray} {pp qq : Nat → Int} (h : KeyMap w b ss pp qq m) (hb : w'.heap[b]? = w.heap[b]?) : KeyMap w' b ss pp qq m := by
  obtain ⟨D, ⟨es, clock, h1, h2⟩, h3⟩ := h
  exact ⟨D, ⟨es, clock, hb.trans h1, h2⟩, h3⟩
theorem KeyMap.made (w : World) (ss : Nat → ByteArray) (pp qq : Nat → Int) : KeyMap (w.alloc (.map #[] 0)) w.heap.size ss pp qq 0 :=
  ⟨.map [], World.ownsMap_made _ _ _ _, fun v l _ => ⟨fun h => by simp [Maps.has] at h, fun ⟨i, hi, _⟩ => by omega⟩⟩
theorem KeyMap.update {w : World} {b m : Nat} {ss : Nat → ByteArray} {pp qq : Nat → Int} (h : KeyMap w b ss pp qq m) (hm : m < maxLen) (hok : KOk ss pp qq m) (x : Bool) :
    ∃ w', (Instr.mapUpdate 29 (.map (some b)) (.agg #[.string (ss m), .int .i64 (pp m), .int .i64 (qq m)]) (.bool x)).run Try.prog w = .ok () w' ∧ KeyMap w' b ss pp qq (m + 1) ∧ w.grownBy w' (some b) := by
  obtain ⟨D, hown, hD⟩ := h
  obtain ⟨kl, hkl⟩ := key_ok (ss m) (pp m) (qq m) hok.1 hok.2.1 hok.2.2
  obtain ⟨w', hrun, hown', hg⟩ := hown.update law35 Try.underlying29 hm hkl (plainElem_bool Try.underlying4 x)
  refine ⟨w', hrun, ⟨_, hown', fun v l hv => ?_⟩, hg⟩
  have hmap : IsMap D := by obtain ⟨es, clock, _, _, _, e⟩ := hown; exact ⟨_, e⟩
  by_cases e : l = kl
  · subst e
    have hvk : v = kv (ss m) (pp m) (qq m) := law35.inj hv hkl
    exact ⟨fun _ => ⟨m, by omega, hvk⟩, fun _ => has_put_same hmap (law35.key hkl) _⟩
  · rw [has_put_other e, hD v l hv]
    constructor
    · rintro ⟨i, hi, hvi⟩
      exact ⟨i, by omega, hvi⟩
    · rintro ⟨i, hi, hvi⟩
      by_cases ei : i = m
      · subst ei
        rw [hvi, hkl] at hv
        exact absurd (Option.some.inj hv).symm e
      · exact ⟨i, by omega, hvi⟩
theorem ranges_of_blocks {w w' : World} {b r n : Nat} {D : DataW Unit} {left : Lit → Bool} {cnt : Nat} (h : w.ranges Try.prog 35 (plainElem Try.prog 4) b r n D left cnt) (hb : w'.heap[b]? = w.heap[b]?) (hr : w'.heap[r]? = w.heap[r]?) : w'.ranges Try.prog 35 (plainElem Try.prog 4) b r n D left cnt := by
  obtain ⟨es, clock, since, seen, c0, h1, F, hs, hD, h2, rest⟩ := h
  exact ⟨es, clock, since, seen, c0, hb.trans h1, F, hs, hD, hr.trans h2, rest⟩
/-- the step over the keys -/
theorem wpList_next_keys (w : World) {ops : Array Oper} {rest : List Oper} {o : Oper} {a : Act} {Q : Exit → Act → World → Prop} (hg : o.guard = none) (it : Operand) (hop : o.op = Op.next it false) (b r m : Nat) {ss : Nat → ByteArray} {pp qq : Nat → Int} (D : DataW Unit) (left : Lit → Bool) (cnt : Nat)
    (hit : a.eval it = .pointer (some ⟨r, 0, none⟩)) (h : w.ranges Try.prog 35 (plainElem Try.prog 4) b r m D left cnt) (hD : KHas ss pp qq m D) (hsub : ∀ l, left l = true → Maps.has D l = true)
    (hDone : (∀ kl, left kl = false) → wpList Try.prog ops Q rest (a.put o.dst (.tuple #[.bool false])) w)
    (hMore : ∀ (i : Nat) (c : Value) (kl : Lit) (w' : World) (cnt' : Nat), i < m → keyOf Try.prog 35 (kv (ss i) (pp i) (qq i)) = some kl → w'.ranges Try.prog 35 (plainElem Try.prog 4) b r m D (fun z => left z && !z.sameKey kl) cnt' → cnt' < cnt →
      w.grownBy w' (some r) → w'.heap.size = w.heap.size → (Instr.entry (.pointer (some ⟨r, 0, none⟩))).run Try.prog w' = .ok (.tuple #[.agg #[.string (ss i), .int .i64 (pp i), .int .i64 (qq i)], c]) w' → wpList Try.prog ops Q rest (a.put o.dst (.tuple #[.bool true, .agg #[.string (ss i), .int .i64 (pp i), .int .i64 (qq i)], c])) w') :
    wpList Try.prog ops Q (o :: rest) a w := by
  refine wpList_plain hg fun K' hK' => ?_
  unfold Oper.wp
  rcases h.next law35 o.type with ⟨h0, hl, hrun⟩ | ⟨key, v, kl, y, w', cnt', hkey, hlk, hv, hat, hrun, hrg, hlt, hgr, hsz, hen⟩
  · simp [execOp, hop, hit, hrun, Result.andThen]
    exact hK' _ _ (hDone hl)
  · obtain ⟨i, hi, rfl⟩ := (hD key kl hkey).1 (hsub kl hlk)
    simp [execOp, hop, hit, hrun, Result.andThen]
    exact hK' _ _ (hMore i v kl w' cnt' hi hkey hrg hlt hgr hsz hen)
end Go.Proofs.Qxb6617582a
