import PyProof.Rows.All
import Wide.All
import OpenK.AllK
import Wide.FinOn
import KE.KUnpack
import KE.KItem
import Lean
import PySem.Challenge.RW_oo0009_01
open PySem PySem.W PyProof.Rows PySem.Calls
set_option Elab.async false
set_option maxRecDepth 100000
set_option autoImplicit false
set_option linter.unusedVariables false
set_option maxHeartbeats 8000000

namespace Mine

abbrev sN (l : List Nat) : Str := ⟨l.toArray⟩
theorem sN_length (l : List Nat) : (sN l).length = l.length := by simp [Str.length]
theorem sN_append (a b : List Nat) : sN a ++ sN b = sN (a ++ b) := by
  show Str.mk (_ ++ _) = _
  simp
theorem sN_inj {a b : List Nat} (h : sN a = sN b) : a = b := by
  have := congrArg (fun s : Str => s.cps.toList) h
  simpa using this
theorem sN_beq (a b : List Nat) : (sN a == sN b) = (a == b) := by
  rw [Bool.eq_iff_iff, beq_iff_eq, beq_iff_eq]
  exact ⟨sN_inj, fun h => by rw [h]⟩

theorem item_sN {l : List Nat} {k : Nat} {c : Nat} (h : l[k]? = some c) : Txt.item (sN l) (k : Int) = sN [c] := by
  have hk : k < l.length := (List.getElem?_eq_some_iff.mp h).1
  have e : seqIndex? (k : Int) (sN l).length = some k := by
    unfold seqIndex?
    simp [sN_length, hk]
    omega
  unfold Txt.item Txt.charAt
  rw [e]
  simp [h]

theorem join_sN (l : List Nat) : Txt.join (sN []) (l.map fun c => sN [c]) = sN l := by
  unfold Txt.join
  rw [StrLaws.glued_eq_join]
  induction l with
  | nil => rfl
  | cons c l ih =>
    cases l with
    | nil => rfl
    | cons d l =>
      show (sN [c] ++ sN [] ++ Str.join (sN []) ((d :: l).map fun c => sN [c])) = _
      rw [ih, sN_append, sN_append]
      rfl
theorem joinOk_sN (l : List Nat) (h : l.length ≤ 10000) : JoinOk (sN []) (l.map fun c => sN [c]) = true := by
  unfold JoinOk
  rw [StrLaws.joinTotal]
  have e : ((l.map fun c => sN [c]).map (·.length)).sum = l.length := by
    clear h
    induction l with
    | nil => rfl
    | cons c l ih => simp only [List.map_cons, List.sum_cons, ih]; simp [Str.length]; omega
  have e0 : (sN []).length = 0 := rfl
  rw [e, e0, Nat.mul_zero, Nat.add_zero]
  unfold Builtin.Str.tooLong
  rw [sizeLine_eq]
  simp
  omega

theorem slice_sN {l : List Nat} {lo hi : Option Int} {a b : Nat} (hab : a ≤ b) (hb : b ≤ l.length) (hlo : lo = some (a : Int) ∨ (lo = none ∧ a = 0)) (hhi : hi = some (b : Int) ∨ (hi = none ∧ b = l.length)) :
    Txt.slice (sN l) lo hi = sN ((l.drop a).take (b - a)) := by
  have hb' : b ≤ (sN l).length := by rw [sN_length]; exact hb
  have e : Builtin.Str.strSliceIndices lo hi 1 (sN l).length = (List.range (b - a)).map fun k => a + k := by
    have key := StrLaws.strSliceIndices_plain hab hb'
    rcases hlo with rfl | ⟨rfl, rfl⟩ <;> rcases hhi with rfl | ⟨rfl, rfl⟩
    · exact key
    · rw [StrLaws.sliceIdx_none_hi, sN_length]; rw [sN_length] at key; exact key
    · rw [StrLaws.sliceIdx_none_lo]; exact key
    · rw [StrLaws.sliceIdx_none_hi, StrLaws.sliceIdx_none_lo, sN_length]; rw [sN_length] at key; exact key
  have e2 := StrLaws.sliced_plain (sN l) hab hb'
  rw [StrLaws.strSliceIndices_plain hab hb'] at e2
  unfold Txt.slice
  rw [e, e2]
  split
  · rename_i h
    have : b - a = l.length := by simpa [sN_length] using h
    have ha : a = 0 := by omega
    have hb' : b = l.length := by omega
    subst ha hb'
    simp
  · rfl
theorem slice_to {l : List Nat} {k : Nat} (h : k ≤ l.length) : Txt.slice (sN l) none (some (k : Int)) = sN (l.take k) := by
  rw [slice_sN (Nat.zero_le k) h (.inr ⟨rfl, rfl⟩) (.inl rfl)]; simp
theorem slice_from {l : List Nat} {k : Nat} (h : k ≤ l.length) : Txt.slice (sN l) (some (k : Int)) none = sN (l.drop k) := by
  rw [slice_sN h (Nat.le_refl _) (.inl rfl) (.inr ⟨rfl, rfl⟩), List.take_of_length_le (by simp)]

theorem contains_one (l : List Nat) (c : Nat) : Txt.contains (sN l) (sN [c]) = decide (c ∈ l) := by
  have := StrLaws.found_one (sN l) c
  exact this
theorem at_one {l : List Nat} {c i : Nat} : StrLaws.At (sN l) (sN [c]) (sN l).length i ↔ l[i]? = some c := by
  have := StrLaws.subAt_one (sN l) c i
  exact this

theorem rfind_one {a b : List Nat} {c : Nat} (h : c ∉ b) : Txt.rfind (sN (a ++ c :: b)) (sN [c]) = (a.length : Int) := by
  have hat : (a ++ c :: b)[a.length]? = some c := by simp
  have hno : ∀ k, a.length < k → (a ++ c :: b)[k]? ≠ some c := fun k hk e => by
    rw [List.getElem?_append_right (by omega)] at e
    obtain ⟨j, hj⟩ : ∃ j, k - a.length = j + 1 := ⟨k - a.length - 1, by omega⟩
    rw [hj, List.getElem?_cons_succ] at e
    exact h (List.mem_of_getElem? e)
  rcases rfind_whole (sN (a ++ c :: b)) (sN [c]) with ⟨_, hn⟩ | ⟨i, hi, h1, h2⟩
  · exact absurd (at_one.mpr hat) (hn _)
  · rw [hi]
    rw [at_one] at h1
    have h3 : ¬ i < a.length := fun hlt => h2 a.length hlt (at_one.mpr hat)
    have h4 : ¬ a.length < i := fun hlt => hno i hlt h1
    omega

theorem find_one {l : List Nat} {c : Nat} (h : c ∈ l) : Txt.find (sN l) (sN [c]) = (l.idxOf c : Int) := by
  have hat : l[l.idxOf c]? = some c := by
    rw [List.getElem?_eq_getElem (List.idxOf_lt_length_iff.mpr h)]; simp
  rcases find_whole (sN l) (sN [c]) with ⟨_, hn⟩ | ⟨i, hi, h1, h2⟩
  · exact absurd (at_one.mpr hat) (hn _)
  · rw [hi]
    rw [at_one] at h1
    have h3 : ¬ l.idxOf c < i := fun hlt => h2 _ hlt (at_one.mpr hat)
    have h4 : ¬ i < l.idxOf c := fun hlt => by
      have := List.not_of_lt_findIdx (p := (· == c)) hlt
      obtain ⟨hlt', e⟩ := List.getElem?_eq_some_iff.mp h1
      simp [e] at this
    omega

def lowN (l : List Nat) : List Nat := l.map lo1
def upN (l : List Nat) : List Nat := l.map up1
theorem lower_sN {l : List Nat} (h : ∀ c ∈ l, c < 128) : Txt.lower (sN l) = sN (lowN l) := by
  rw [lower_ascii (by simpa using h)]
  simp [sN, lowN]
theorem upper_sN {l : List Nat} (h : ∀ c ∈ l, c < 128) : Txt.upper (sN l) = sN (upN l) := by
  rw [upper_ascii (by simpa using h)]
  simp [sN, upN]
end Mine

namespace Mine

/-- convertbits, as a function upon lists -/
def drainC (tb acc : Nat) : Nat → Nat → List Nat → Nat × List Nat
  | 0, bits, ret => (bits, ret)
  | k + 1, bits, ret => if tb ≤ bits then drainC tb acc k (bits - tb) (ret ++ [(acc >>> (bits - tb)) &&& ((1 <<< tb) - 1)]) else (bits, ret)
def accC (fb tb acc v : Nat) : Nat := ((acc <<< fb) ||| v) &&& ((1 <<< (fb + tb - 1)) - 1)
def stepC (fb tb : Nat) (st : Nat × Nat × List Nat) (v : Nat) : Nat × Nat × List Nat :=
  let acc := accC fb tb st.1 v
  (acc, drainC tb acc (st.2.1 + fb) (st.2.1 + fb) st.2.2)
def convC (fb tb : Nat) (data : List Nat) : Nat × Nat × List Nat := data.foldl (stepC fb tb) (0, 0, [])

theorem drainC_inv (tb acc : Nat) (h : 1 ≤ tb) : ∀ (k bits : Nat) (ret : List Nat), tb * (drainC tb acc k bits ret).2.length + (drainC tb acc k bits ret).1 = tb * ret.length + bits ∧ (bits ≤ k → (drainC tb acc k bits ret).1 < tb)
  | 0, bits, ret => ⟨rfl, fun h' => by show bits < tb; omega⟩
  | k + 1, bits, ret => by
    unfold drainC
    split
    · rename_i hb
      obtain ⟨h1, h2⟩ := drainC_inv tb acc h k (bits - tb) (ret ++ [(acc >>> (bits - tb)) &&& ((1 <<< tb) - 1)])
      refine ⟨?_, fun hk => h2 (by omega)⟩
      rw [h1, List.length_append, List.length_singleton, Nat.mul_add]
      omega
    · exact ⟨rfl, fun _ => by show bits < tb; omega⟩
theorem accC_lt (fb tb acc v : Nat) : accC fb tb acc v < 2 ^ (fb + tb - 1) := by
  unfold accC
  rw [Nat.one_shiftLeft]
  exact Nat.lt_of_le_of_lt Nat.and_le_right (by have := Nat.two_pow_pos (fb + tb - 1); omega)
theorem convC_snoc (fb tb : Nat) (data : List Nat) (v : Nat) : convC fb tb (data ++ [v]) = stepC fb tb (convC fb tb data) v := by simp [convC]
structure InvC (fb tb i : Nat) (st : Nat × Nat × List Nat) : Prop where
  acc : st.1 < 2 ^ (fb + tb - 1)
  bits : st.2.1 < tb
  len : tb * st.2.2.length + st.2.1 = fb * i
theorem stepC_inv {fb tb i : Nat} {st : Nat × Nat × List Nat} (h : 1 ≤ tb) (I : InvC fb tb i st) (v : Nat) : InvC fb tb (i + 1) (stepC fb tb st v) := by
  obtain ⟨h1, h2⟩ := drainC_inv tb (accC fb tb st.1 v) h (st.2.1 + fb) (st.2.1 + fb) st.2.2
  exact ⟨accC_lt _ _ _ _, h2 (Nat.le_refl _), by
    have := I.len
    show tb * (drainC tb (accC fb tb st.1 v) (st.2.1 + fb) (st.2.1 + fb) st.2.2).2.length + (drainC tb (accC fb tb st.1 v) (st.2.1 + fb) (st.2.1 + fb) st.2.2).1 = _
    rw [h1, Nat.mul_add]; omega⟩
theorem convC_inv {fb tb : Nat} (h : 1 ≤ tb) (data : List Nat) : InvC fb tb data.length (convC fb tb data) := by
  have key : ∀ (k : Nat), k ≤ data.length → InvC fb tb k (convC fb tb (data.take k)) := by
    intro k hk
    induction k with
    | zero => exact ⟨Nat.two_pow_pos _, h, by simp [convC]⟩
    | succ k ih =>
      have hk' : k < data.length := hk
      rw [List.take_add_one, List.getElem?_eq_getElem hk']
      show InvC fb tb (k + 1) (convC fb tb (data.take k ++ [data[k]]))
      rw [convC_snoc]
      exact stepC_inv h (ih (by omega)) _
  have := key data.length (Nat.le_refl _)
  rwa [List.take_length] at this
end Mine

namespace Mine

/-- what a value is, with no heap in sight -/
inductive PV where
  | none
  | bool (b : Bool)
  | int (i : Int)
  | str (s : Str)
  | list (xs : List PV)
  | tup (xs : List PV)
  | loose (xs : List PV)

abbrev seqObj (T : String) (items : Array Value) (n : Nat) : Obj := { cls := .type T, data := .seq items n }

mutual
inductive Rep (W : Addr → Prop) (h : Heap) : Value → PV → Prop
  | none : Rep W h .none .none
  | bool (b : Bool) : Rep W h (.bool b) (.bool b)
  | int (i : Int) (t : Tok) : Rep W h (.int i t) (.int i)
  | str (x : Str) (t : Tok) : Rep W h (.str x t) (.str x)
  | list {a : Addr} {items : Array Value} {n : Nat} {xs : List PV} : ¬ W a → h.get? a = some (seqObj "list" items n) → RepAll W h items.toList xs → Rep W h (.ref a) (.list xs)
  | tup {a : Addr} {items : Array Value} {n : Nat} {xs : List PV} : ¬ W a → h.get? a = some (seqObj "tuple" items n) → RepAll W h items.toList xs → Rep W h (.ref a) (.tup xs)
  | loose {a : Addr} {o : Obj} {items : Array Value} {n : Nat} {xs : List PV} : ¬ W a → h.get? a = some o → o.cls = .type "list" → o.data = .seq items n → RepAll W h items.toList xs → Rep W h (.ref a) (.loose xs)
inductive RepAll (W : Addr → Prop) (h : Heap) : List Value → List PV → Prop
  | nil : RepAll W h [] []
  | cons {v : Value} {p : PV} {vs : List Value} {ps : List PV} : Rep W h v p → RepAll W h vs ps → RepAll W h (v :: vs) (p :: ps)
end

/-- the object of a list or a tuple -/
def IsSeq (o : Obj) : Prop := ∃ items n, o.data = .seq items n
theorem isSeq (T : String) (items : Array Value) (n : Nat) : IsSeq (seqObj T items n) := ⟨_, _, rfl⟩
def KeepSeq (W : Addr → Prop) (h h' : Heap) : Prop := ∀ b o, ¬ W b → h.get? b = some o → IsSeq o → h'.get? b = some o

mutual
theorem Rep.mono {W : Addr → Prop} {h h' : Heap} (k : KeepSeq W h h') : ∀ {v : Value} {p : PV}, Rep W h v p → Rep W h' v p
  | _, _, .none => .none
  | _, _, .bool b => .bool b
  | _, _, .int i t => .int i t
  | _, _, .str x t => .str x t
  | _, _, .list w g r => .list w (k _ _ w g (isSeq ..)) (RepAll.mono k r)
  | _, _, .tup w g r => .tup w (k _ _ w g (isSeq ..)) (RepAll.mono k r)
  | _, _, .loose w g c d r => .loose w (k _ _ w g ⟨_, _, d⟩) c d (RepAll.mono k r)
theorem RepAll.mono {W : Addr → Prop} {h h' : Heap} (k : KeepSeq W h h') : ∀ {vs : List Value} {ps : List PV}, RepAll W h vs ps → RepAll W h' vs ps
  | _, _, .nil => .nil
  | _, _, .cons r rs => .cons (Rep.mono k r) (RepAll.mono k rs)
end

mutual
/-- another protected set, on the addresses that stand -/
theorem Rep.weak {W W' : Addr → Prop} {h : Heap} (k : ∀ b o, h.get? b = some o → ¬ W b → ¬ W' b) : ∀ {v : Value} {p : PV}, Rep W h v p → Rep W' h v p
  | _, _, .none => .none
  | _, _, .bool b => .bool b
  | _, _, .int i t => .int i t
  | _, _, .str x t => .str x t
  | _, _, .list w g r => .list (k _ _ g w) g (RepAll.weak k r)
  | _, _, .tup w g r => .tup (k _ _ g w) g (RepAll.weak k r)
  | _, _, .loose w g c d r => .loose (k _ _ g w) g c d (RepAll.weak k r)
theorem RepAll.weak {W W' : Addr → Prop} {h : Heap} (k : ∀ b o, h.get? b = some o → ¬ W b → ¬ W' b) : ∀ {vs : List Value} {ps : List PV}, RepAll W h vs ps → RepAll W' h vs ps
  | _, _, .nil => .nil
  | _, _, .cons r rs => .cons (Rep.weak k r) (RepAll.weak k rs)
end

theorem RepAll.length {W : Addr → Prop} {h : Heap} {vs : List Value} {ps : List PV} (r : RepAll W h vs ps) : vs.length = ps.length := by
  induction vs generalizing ps with
  | nil => cases r; rfl
  | cons v vs ih => cases r with | cons a b => simp [ih b]

theorem RepAll.get {W : Addr → Prop} {h : Heap} {vs : List Value} {ps : List PV} (r : RepAll W h vs ps) {i : Nat} {p : PV} (e : ps[i]? = some p) : ∃ v, vs[i]? = some v ∧ Rep W h v p := by
  induction vs generalizing ps i with
  | nil => cases r; simp at e
  | cons v vs ih =>
    cases r with
    | cons a b =>
      cases i with
      | zero => simp at e; subst e; exact ⟨v, rfl, a⟩
      | succ i => simpa using ih b (by simpa using e)
theorem RepAll.get' {W : Addr → Prop} {h : Heap} {vs : List Value} {ps : List PV} (r : RepAll W h vs ps) {i : Nat} {v : Value} (e : vs[i]? = some v) : ∃ p, ps[i]? = some p ∧ Rep W h v p := by
  induction vs generalizing ps i with
  | nil => cases r; simp at e
  | cons v vs ih =>
    cases r with
    | cons a b =>
      cases i with
      | zero => simp at e; subst e; exact ⟨_, rfl, a⟩
      | succ i => simpa using ih b (by simpa using e)

theorem RepAll.append {W : Addr → Prop} {h : Heap} {vs vs' : List Value} {ps ps' : List PV} (r : RepAll W h vs ps) (r' : RepAll W h vs' ps') : RepAll W h (vs ++ vs') (ps ++ ps') := by
  induction vs generalizing ps with
  | nil => cases r; exact r'
  | cons v vs ih => cases r with | cons a b => exact .cons a (ih b)
theorem RepAll.take {W : Addr → Prop} {h : Heap} {vs : List Value} {ps : List PV} (r : RepAll W h vs ps) (k : Nat) : RepAll W h (vs.take k) (ps.take k) := by
  induction vs generalizing ps k with
  | nil => cases r; simp; exact .nil
  | cons v vs ih => cases r with | cons a b => cases k with
    | zero => exact .nil
    | succ k => exact .cons a (ih b k)
theorem RepAll.drop {W : Addr → Prop} {h : Heap} {vs : List Value} {ps : List PV} (r : RepAll W h vs ps) (k : Nat) : RepAll W h (vs.drop k) (ps.drop k) := by
  induction vs generalizing ps k with
  | nil => cases r; simp; exact .nil
  | cons v vs ih => cases r with | cons a b => cases k with
    | zero => exact .cons a b
    | succ k => exact ih b k
theorem RepAll.set {W : Addr → Prop} {h : Heap} {vs : List Value} {ps : List PV} {v : Value} {p : PV} (r : RepAll W h vs ps) (q : Rep W h v p) (k : Nat) : RepAll W h (vs.set k v) (ps.set k p) := by
  induction vs generalizing ps k with
  | nil => cases r; simp; exact .nil
  | cons v vs ih => cases r with | cons a b => cases k with
    | zero => exact .cons q b
    | succ k => exact .cons a (ih b k)

/-- what a proof of this file stands upon -/
structure Cx where
  prog : Program
  w : World
  h₁ : Heap
  mg : Str → Option Value
  mb : Str → Option Value
  c : Addr
  P : Addr

/-- the base as it was, but for the code table at P, which may have grown -/
def GI (cx : Cx) (h : Heap) : Prop := ∃ g ps, Based cx.h₁ g cx.c cx.P ps ∧ ∀ b o, g.get? b = some o → h.get? b = some o

theorem GI.keeps {cx : Cx} {h h' : Heap} (x : GI cx h) (k : ∀ b o, h.get? b = some o → h'.get? b = some o) : GI cx h' :=
  let ⟨g, ps, B, e⟩ := x; ⟨g, ps, B, fun b o q => k b o (e b o q)⟩
theorem GI.table {cx : Cx} {h : Heap} (x : GI cx h) : ∃ ps, h.get? cx.P = some { cls := .none, data := .fields ps } :=
  let ⟨_, ps, B, e⟩ := x; ⟨ps, e _ _ B.tab.2⟩
theorem GI.get {cx : Cx} {h : Heap} (x : GI cx h) {b : Addr} {o : Obj} (e : cx.h₁.get? b = some o) (hb : b ≠ cx.P) : h.get? b = some o :=
  let ⟨_, _, B, k⟩ := x; k _ _ ((B.same.2 b hb).trans e)
theorem GI.old {cx : Cx} {h : Heap} (x : GI cx h) : OldK cx.h₁ h :=
  let ⟨_, _, B, k⟩ := x; B.old.step_keeps k
theorem GI.ltP {cx : Cx} {h : Heap} (x : GI cx h) : cx.P < h.objs.size := let ⟨_, e⟩ := x.table; Heap.lt_size e

structure SOK (cx : Cx) (q : Bool) (s : Shared) : Prop where
  gi : GI cx s.heap
  bare : q = false → AllBare s.gens

/-- how one state follows another: q = true: nothing is changed at all; else the table at P may grow and generators be made -/
structure Rel (cx : Cx) (q : Bool) (s s' : Shared) : Prop where
  rest : ∃ h' tk gs, s' = { s with heap := h', toks := tk, gens := gs }
  gens : q = true → s'.gens = s.gens
  keep : ∀ b o, (q = true ∨ b ≠ cx.P) → s.heap.get? b = some o → s'.heap.get? b = some o
  gi : GI cx s.heap → GI cx s'.heap
  bare : AllBare s.gens → AllBare s'.gens

variable {cx : Cx} {q : Bool}

theorem Rel.refl (s : Shared) : Rel cx q s s := ⟨⟨_, _, _, rfl⟩, fun _ => rfl, fun _ _ _ e => e, id, id⟩
theorem Rel.trans {s s' s'' : Shared} (x : Rel cx q s s') (y : Rel cx q s' s'') : Rel cx q s s'' := by
  refine ⟨?_, fun e => (y.gens e).trans (x.gens e), fun b o hb e => y.keep b o hb (x.keep b o hb e), fun e => y.gi (x.gi e), fun e => y.bare (x.bare e)⟩
  obtain ⟨h', tk, gs, rfl⟩ := x.rest
  obtain ⟨h'', tk', gs', rfl⟩ := y.rest
  exact ⟨_, _, _, rfl⟩
theorem Rel.of_keeps {s s' : Shared} (x : Keeps s s') : Rel cx q s s' := by
  obtain ⟨h', tk, rfl, k⟩ := x
  exact ⟨⟨_, _, _, rfl⟩, fun _ => rfl, fun b o _ e => k b o e, fun g => g.keeps k, id⟩
theorem Rel.keeps {s s' : Shared} (x : Rel cx true s s') : Keeps s s' := by
  obtain ⟨h', tk, gs, rfl⟩ := x.rest
  have : gs = s.gens := x.gens rfl
  subst this
  exact ⟨h', tk, rfl, fun b o e => x.keep b o (.inl rfl) e⟩
theorem Rel.any {s s' : Shared} (x : Rel cx true s s') : Rel cx q s s' := .of_keeps x.keeps
theorem Rel.tok {s s' : Shared} (x : Rel cx q s s') (t : Nat) : Rel cx q s { s' with toks := t } :=
  x.trans (.of_keeps ⟨s'.heap, t, rfl, fun _ _ e => e⟩)
theorem Rel.os {s s' : Shared} (x : Rel cx q s s') : s'.os = s.os := by obtain ⟨h', tk, gs, rfl⟩ := x.rest; rfl
theorem Rel.ok {s s' : Shared} (x : Rel cx q s s') (k : SOK cx q s) : SOK cx q s' := ⟨x.gi k.gi, fun e => x.bare (k.bare e)⟩

/-- an object that cannot be the code table -/
def Solid (o : Obj) : Prop := o.cls ≠ .none ∨ ∀ vs, o.data ≠ .fields vs
theorem Solid.ne {h : Heap} {b : Addr} {o : Obj} (g : GI cx h) (e : h.get? b = some o) (k : Solid o) : b ≠ cx.P := by
  rintro rfl
  obtain ⟨ps, hp⟩ := g.table
  rw [hp] at e; cases e
  exact k.elim (fun x => x rfl) fun x => x _ rfl
theorem solid_seq (T : String) (items : Array Value) (n : Nat) : Solid (seqObj T items n) := .inr fun _ e => by cases e
theorem Rel.get {s s' : Shared} (x : Rel cx q s s') (k : SOK cx q s) {b : Addr} {o : Obj} (e : s.heap.get? b = some o) (so : Solid o) : s'.heap.get? b = some o :=
  x.keep b o (.inr (so.ne k.gi e)) e
theorem Rel.keepSeq {s s' : Shared} (x : Rel cx q s s') (k : SOK cx q s) (W : Addr → Prop) : KeepSeq W s.heap s'.heap :=
  fun _ _ _ e q => x.get k e (.inr fun vs => by obtain ⟨_, _, d⟩ := q; rw [d]; intro z; cases z)
theorem Rel.ns {s s' : Shared} (x : Rel cx q s s') (k : SOK cx q s) {a : Addr} {m : Str → Option Value} (n : s.heap.Ns a m) : s'.heap.Ns a m :=
  let ⟨o, es, ep, e, d, r⟩ := n; ⟨o, es, ep, x.get k e (.inr fun vs => by rw [d]; intro z; cases z), d, r⟩
theorem Rel.cell {s s' : Shared} (x : Rel cx q s s') (k : SOK cx q s) {a : Addr} {v : Option Value} (n : s.heap.IsCell a v) : s'.heap.IsCell a v :=
  let ⟨o, e, d⟩ := n; ⟨o, x.get k e (.inr fun vs => by rw [d]; intro z; cases z), d⟩
theorem Rel.rep {s s' : Shared} (x : Rel cx q s s') (k : SOK cx q s) {W : Addr → Prop} {v : Value} {p : PV} (r : Rep W s.heap v p) : Rep W s'.heap v p := r.mono (x.keepSeq k W)
theorem Rel.repAll {s s' : Shared} (x : Rel cx q s s') (k : SOK cx q s) {W : Addr → Prop} {v : List Value} {p : List PV} (r : RepAll W s.heap v p) : RepAll W s'.heap v p := r.mono (x.keepSeq k W)
theorem SOK.tok {s : Shared} (k : SOK cx q s) (t : Nat) : SOK cx q { s with toks := t } := ⟨k.gi, k.bare⟩

def SolidIn (h : Heap) (b : Addr) : Prop := ∃ o, h.get? b = some o ∧ Solid o

/-- a name of the frame holds this -/
def VarIs (h : Heap) (env : Env) (x : Str) (v : Value) : Prop :=
  (env.kindOf x = some .local ∧ ∃ m, h.Ns env.locals m ∧ m x = some v) ∨
  ((env.kindOf x = some .cell ∨ (env.kindOf x = some .free ∧ (x == ("__classdict__" : Str)) = false)) ∧ ∃ c, env.cells.lookup x = some c ∧ h.IsCell c (some v))
theorem VarIs.rel {s s' : Shared} {env : Env} {x : Str} {v : Value} (r : Rel cx q s s') (k : SOK cx q s) (e : VarIs s.heap env x v) : VarIs s'.heap env x v := by
  rcases e with ⟨a, m, n, e⟩ | ⟨a, c, b, e⟩
  · exact .inl ⟨a, m, r.ns k n, e⟩
  · exact .inr ⟨a, c, b, r.cell k e⟩

abbrev Ctxt := List (Str × PV)

def ListAt (W : Addr → Prop) (h : Heap) (a : Addr) (xs : List PV) : Prop := ∃ items n, h.get? a = some (seqObj "list" items n) ∧ RepAll W h items.toList xs

/-- a state at which values are at hand; W: addresses of lists that may be written later -/
structure VS (cx : Cx) (q : Bool) (W : Addr → Prop) (s : Shared) : Prop where
  ok : SOK cx q s
  prot : ∀ b, W b → ∃ T items n, s.heap.get? b = some (seqObj T items n)
theorem VS.rel {W : Addr → Prop} {s s' : Shared} (x : VS cx q W s) (r : Rel cx q s s') : VS cx q W s' :=
  ⟨r.ok x.ok, fun b hb => let ⟨T, items, n, e⟩ := x.prot b hb; ⟨T, items, n, r.get x.ok e (solid_seq _ _ _)⟩⟩
theorem VS.new {W : Addr → Prop} {s : Shared} (x : VS cx q W s) : ¬ W s.heap.objs.size := fun hw => by
  obtain ⟨_, _, _, e⟩ := x.prot _ hw
  exact Nat.lt_irrefl _ (Heap.lt_size e)

/-- the state at an expression: what the names hold -/
structure ES (cx : Cx) (q : Bool) (W : Addr → Prop) (env : Env) (ρ : Ctxt) (ow : Option (Str × List PV)) (s : Shared) : Prop where
  vs : VS cx q W s
  kind : env.scope.kind = .function
  globals : env.globals = mainGlobals
  builtins : env.builtins = builtinsNs
  vars : ∀ x p, ρ.lookup x = some p → ∃ v, VarIs s.heap env x v ∧ Rep W s.heap v p
  own : ∀ x xs, ow = some (x, xs) → ∃ a, W a ∧ VarIs s.heap env x (.ref a) ∧ ListAt W s.heap a xs

theorem ListAt.rel {W : Addr → Prop} {s s' : Shared} {a : Addr} {xs : List PV} (r : Rel cx q s s') (k : SOK cx q s) (x : ListAt W s.heap a xs) : ListAt W s'.heap a xs :=
  let ⟨items, n, e, g⟩ := x; ⟨items, n, r.get k e (solid_seq _ _ _), r.repAll k g⟩
theorem ES.rel {W : Addr → Prop} {env : Env} {ρ : Ctxt} {ow : Option (Str × List PV)} {s s' : Shared} (x : ES cx q W env ρ ow s) (r : Rel cx q s s') : ES cx q W env ρ ow s' :=
  ⟨x.vs.rel r, x.kind, x.globals, x.builtins, fun y p e => let ⟨v, a, b⟩ := x.vars y p e; ⟨v, a.rel r x.vs.ok, r.rep x.vs.ok b⟩,
   fun y xs e => let ⟨a, w, b, c⟩ := x.own y xs e; ⟨a, w, b.rel r x.vs.ok, c.rel r x.vs.ok⟩⟩

/-- room: n more calls may be made from here -/
structure AOK (n : Nat) (A : Around) : Prop where
  hh : A.handled = none
  depth : A.depth + n < recursionLimit
  units : A.units + 40 * n + 100 < cLine
theorem AOK.le {n m : Nat} {A : Around} (x : AOK n A) (h : m ≤ n) : AOK m A := ⟨x.hh, by have := x.depth; omega, by have := x.units; omega⟩
theorem AOK.room {n : Nat} {A : Around} (x : AOK n A) : A.depth < recursionLimit := by have := x.depth; omega
theorem AOK.deeper {n : Nat} {A : Around} (x : AOK (n + 1) A) (env : Env) : AOK n (A.deeper env) :=
  ⟨x.hh, by have := x.depth; show A.depth + 1 + n < _; omega, by have := x.units; show A.units + 3 + 40 * n + 100 < _; omega⟩

theorem Rel.push (s : Shared) (o : Obj) : Rel cx q s { s with heap := s.heap.push o } :=
  .of_keeps ⟨_, _, rfl, fun _ _ e => Heap.get?_push_of_some _ e⟩

end Mine

namespace Mine
variable {cx : Cx} {q : Bool} {n : Nat} {env : Env} {ρ : Ctxt} {ow : Option (Str × List PV)}

/-- an expression gives p; nothing that stands is changed (but the table) -/
def Ev (cx : Cx) (q : Bool) (n : Nat) (env : Env) (ρ : Ctxt) (ow : Option (Str × List PV)) (e : Expr) (p : PV) : Prop :=
  ∀ (A : Around) (s : Shared) (W : Addr → Prop) (E : Value → Shared → Prop), AOK n A → ES cx q W env ρ ow s →
    wpAny (model cx.prog cx.w) A (eval e env) (fun v s' => Rel cx q s s' ∧ Rep W s'.heap v p) E s

/-- a test gives b -/
def EvT (cx : Cx) (q : Bool) (n : Nat) (env : Env) (ρ : Ctxt) (ow : Option (Str × List PV)) (e : Expr) (b : Bool) : Prop :=
  ∀ (A : Around) (s : Shared) (W : Addr → Prop) (E : Value → Shared → Prop), AOK n A → ES cx q W env ρ ow s →
    wpAny (model cx.prog cx.w) A (isTrue e env (eval e env)) (fun c s' => Rel cx q s s' ∧ c = b) E s

/-- an operation upon values -/
def Op (cx : Cx) (q : Bool) (n : Nat) (k : List Value → Sem Value) (ps : List PV) (c : PV) : Prop :=
  ∀ (A : Around) (s : Shared) (W : Addr → Prop) (vs : List Value) (E : Value → Shared → Prop), AOK n A → VS cx q W s → RepAll W s.heap vs ps →
    wpAny (model cx.prog cx.w) A (k vs) (fun v s' => Rel cx q s s' ∧ Rep W s'.heap v c) E s

def EvAll (cx : Cx) (q : Bool) (n : Nat) (env : Env) (ρ : Ctxt) (ow : Option (Str × List PV)) (es : List Expr) (ps : List PV) : Prop :=
  ∀ (A : Around) (s : Shared) (W : Addr → Prop) (E : Value → Shared → Prop) (pos : Pos), AOK n A → ES cx q W env ρ ow s →
    wpAny (model cx.prog cx.w) A (spliced (backTo pos (starEach es env))) (fun vs s' => Rel cx q s s' ∧ RepAll W s'.heap vs ps) E s

theorem Ev.le {n m : Nat} {e : Expr} {p : PV} (x : Ev cx q n env ρ ow e p) (h : n ≤ m) : Ev cx q m env ρ ow e p := fun A s W E a => x A s W E (a.le h)

section
variable {A : Around} {s : Shared} {W : Addr → Prop} {E : Value → Shared → Prop} {M : Model}

theorem tokk (s : Shared) (t : Nat) : Rel cx q s { s with toks := t } := (Rel.refl s).tok t

theorem Ev_int {i : Int} {k : Nat} {pos : Pos} : Ev cx q n env ρ ow (.Constant (.int i) k pos) (.int i) := fun _ _ _ _ _ _ => wpAny_Constant_int ⟨tokk _ _, .int _ _⟩
theorem Ev_str {x : Str} {k : Nat} {pos : Pos} : Ev cx q n env ρ ow (.Constant (.str x) k pos) (.str x) := fun _ _ _ _ _ _ => wpAny_Constant_str ⟨tokk _ _, .str _ _⟩
theorem Ev_none {k : Nat} {pos : Pos} : Ev cx q n env ρ ow (.Constant .none k pos) .none := fun _ _ _ _ _ _ => wpAny_Constant_none ⟨.refl _, .none⟩
theorem Ev_bool {b : Bool} {k : Nat} {pos : Pos} : Ev cx q n env ρ ow (.Constant (.bool b) k pos) (.bool b) := fun _ _ _ _ _ _ => wpAny_Constant_bool ⟨.refl _, .bool _⟩

theorem load_var {x : Str} {v : Value} {Q : Value → Shared → Prop} (hk : env.scope.kind = .function) (e : VarIs s.heap env x v) (h : Q v s) : wpAny M A (loadName env x) Q E s := by
  rcases e with ⟨a, m, hn, e⟩ | ⟨a, c, b, e⟩
  · exact wpAny_loadName_local hk a hn e h
  · rcases a with a | ⟨a, d⟩
    · exact wpAny_loadName_cell hk a b e h
    · exact wpAny_loadName_free hk a b e h d

theorem Ev_name {x : Str} {pos : Pos} {p : PV} (h : ρ.lookup x = some p) (hd : (x == ("__debug__" : Str)) = false := by rfl) : Ev cx q n env ρ ow (.Name x pos) p := fun A s W E hA S => by
  obtain ⟨v, hv, r⟩ := S.vars x p h
  exact wpAny_Name (load_var S.kind hv ⟨.refl _, r⟩) hd

theorem Ev_binop {l r : Expr} {op : Operator} {pos : Pos} {a b c : PV} (hl : Ev cx q n env ρ ow l a) (hr : Ev cx q n env ρ ow r b)
    (ho : Op cx q n (fun vs => binaryOp op (vs.getD 0 .none) (vs.getD 1 .none)) [a, b] c) : Ev cx q n env ρ ow (.BinOp l op r pos) c := fun A s W E hA S => by
  refine wpAny_BinOp (wpAny_mono (hl A s W E hA S) (fun v s₁ h₁ => ?_) fun _ _ e => e)
  refine wpAny_mono (hr A s₁ W E hA (S.rel h₁.1)) (fun u s₂ h₂ => ?_) fun _ _ e => e
  have V₂ := (S.vs.rel h₁.1).rel h₂.1
  refine wpAny_mono (ho A s₂ W [v, u] E hA V₂ (.cons (h₂.1.rep (S.vs.rel h₁.1).ok h₁.2) (.cons h₂.2 .nil))) (fun y s₃ h₃ => ?_) fun _ _ e => e
  exact ⟨(h₁.1.trans h₂.1).trans h₃.1, h₃.2⟩

theorem Ev_unop {x : Expr} {op : UnaryOp} {pos : Pos} {a c : PV} (hl : Ev cx q n env ρ ow x a)
    (ho : Op cx q n (fun vs => unaryOp op (vs.getD 0 .none)) [a] c) : Ev cx q n env ρ ow (.UnaryOp op x pos) c := fun A s W E hA S => by
  refine wpAny_UnaryOp (wpAny_mono (hl A s W E hA S) (fun v s₁ h₁ => ?_) fun _ _ e => e)
  exact wpAny_mono (ho A s₁ W [v] E hA (S.vs.rel h₁.1) (.cons h₁.2 .nil)) (fun y s₃ h₃ => ⟨h₁.1.trans h₃.1, h₃.2⟩) fun _ _ e => e

theorem Ev_cmp {l r : Expr} {op : CmpOp} {pos : Pos} {a b c : PV} (hl : Ev cx q n env ρ ow l a) (hr : Ev cx q n env ρ ow r b)
    (ho : Op cx q n (fun vs => compareOp op (vs.getD 0 .none) (vs.getD 1 .none)) [a, b] c) (hm : behindInMarks op r = false := by with_unfolding_all rfl) : Ev cx q n env ρ ow (.Compare l [op] [r] pos) c := fun A s W E hA S => by
  refine wpAny_Compare1 (wpAny_mono (hl A s W E hA S) (fun v s₁ h₁ => ?_) fun _ _ e => e) hm
  refine wpAny_mono (hr A s₁ W E hA (S.rel h₁.1)) (fun u s₂ h₂ => ?_) fun _ _ e => e
  have V₂ := (S.vs.rel h₁.1).rel h₂.1
  refine wpAny_mono (ho A s₂ W [v, u] E hA V₂ (.cons (h₂.1.rep (S.vs.rel h₁.1).ok h₁.2) (.cons h₂.2 .nil))) (fun y s₃ h₃ => ?_) fun _ _ e => e
  exact ⟨(h₁.1.trans h₂.1).trans h₃.1, h₃.2⟩

theorem EvT_cmp {l r : Expr} {op : CmpOp} {pos : Pos} {a b : PV} {c : Bool} (hl : Ev cx q n env ρ ow l a) (hr : Ev cx q n env ρ ow r b)
    (ho : Op cx q n (fun vs => compareOp op (vs.getD 0 .none) (vs.getD 1 .none)) [a, b] (.bool c)) (hm : behindInMarks op r = false := by with_unfolding_all rfl) : EvT cx q n env ρ ow (.Compare l [op] [r] pos) c := fun A s W E hA S => by
  refine wpAny_isTrue_Compare1 (wpAny_mono (hl A s W E hA S) (fun v s₁ h₁ => ?_) fun _ _ e => e) hm
  refine wpAny_mono (hr A s₁ W E hA (S.rel h₁.1)) (fun u s₂ h₂ => ?_) fun _ _ e => e
  have V₂ := (S.vs.rel h₁.1).rel h₂.1
  refine wpAny_mono (ho A s₂ W [v, u] E hA V₂ (.cons (h₂.1.rep (S.vs.rel h₁.1).ok h₁.2) (.cons h₂.2 .nil))) (fun y s₃ h₃ => ?_) fun _ _ e => e
  obtain ⟨h3, h4⟩ := h₃
  cases h4
  exact wpAny_truthy_bool ⟨(h₁.1.trans h₂.1).trans h3, rfl⟩

theorem EvT_not {x : Expr} {pos : Pos} {b : Bool} (h : EvT cx q n env ρ ow x b) : EvT cx q n env ρ ow (.UnaryOp .Not x pos) (!b) := fun A s W E hA S =>
  wpAny_isTrue_Not (wpAny_mono (h A s W E hA S) (fun c s₁ h₁ => ⟨h₁.1, by rw [h₁.2]⟩) fun _ _ e => e)

/-- lists of tests, joined by and | or -/
def EvTs (cx : Cx) (q : Bool) (n : Nat) (env : Env) (ρ : Ctxt) (ow : Option (Str × List PV)) (op : BoolOp) (es : List Expr) (b : Bool) : Prop :=
  ∀ (A : Around) (s : Shared) (W : Addr → Prop) (E : Value → Shared → Prop), AOK n A → ES cx q W env ρ ow s →
    wpAny (model cx.prog cx.w) A (allTrue op es env) (fun c s' => Rel cx q s s' ∧ c = b) E s
theorem EvTs_and_nil : EvTs cx q n env ρ ow .And [] true := fun _ _ _ _ _ _ => wpAny_allTrue_And_nil ⟨.refl _, rfl⟩
theorem EvTs_or_nil : EvTs cx q n env ρ ow .Or [] false := fun _ _ _ _ _ _ => wpAny_allTrue_Or_nil ⟨.refl _, rfl⟩
theorem EvTs_and {e : Expr} {es : List Expr} {a b : Bool} (h : EvT cx q n env ρ ow e a) (hs : a = true → EvTs cx q n env ρ ow .And es b) : EvTs cx q n env ρ ow .And (e :: es) (a && b) := fun A s W E hA S => by
  refine wpAny_allTrue_And_cons (wpAny_mono (h A s W E hA S) (fun c s₁ h₁ => ?_) fun _ _ e => e)
  obtain ⟨r, rfl⟩ := h₁
  cases c with
  | false => exact ⟨r, rfl⟩
  | true => exact wpAny_mono (hs rfl A s₁ W E hA (S.rel r)) (fun d s₂ h₂ => ⟨r.trans h₂.1, h₂.2⟩) fun _ _ e => e
theorem EvTs_or {e : Expr} {es : List Expr} {a b : Bool} (h : EvT cx q n env ρ ow e a) (hs : a = false → EvTs cx q n env ρ ow .Or es b) : EvTs cx q n env ρ ow .Or (e :: es) (a || b) := fun A s W E hA S => by
  refine wpAny_allTrue_Or_cons (wpAny_mono (h A s W E hA S) (fun c s₁ h₁ => ?_) fun _ _ e => e)
  obtain ⟨r, rfl⟩ := h₁
  cases c with
  | true => exact ⟨r, rfl⟩
  | false => exact wpAny_mono (hs rfl A s₁ W E hA (S.rel r)) (fun d s₂ h₂ => ⟨r.trans h₂.1, h₂.2⟩) fun _ _ e => e
theorem EvT_bools {op : BoolOp} {es : List Expr} {pos : Pos} {b : Bool} (h : EvTs cx q n env ρ ow op es b) : EvT cx q n env ρ ow (.BoolOp op es pos) b := fun A s W E hA S =>
  wpAny_isTrue_BoolOp (h A s W E hA S)


def tru : PV → Option Bool
  | .bool b => some b
  | .int i => some (i != 0)
  | .none => some false
  | _ => none
theorem EvT_value {e : Expr} {p : PV} {b : Bool} (h : Ev cx q n env ρ ow e p) (hb : tru p = some b) (he : ∀ whole, isTrue e env whole = (do let v ← whole; standAt e.pos; holding [v] (truthy v)) := by intro _; rfl) : EvT cx q n env ρ ow e b := fun A s W E hA S => by
  refine wpAny_isTrue_value (wpAny_mono (h A s W E hA S) (fun v s₁ h₁ => ?_) fun _ _ e => e) (he _)
  obtain ⟨r, k⟩ := h₁
  cases k <;> simp only [tru, Option.some.injEq, reduceCtorEq] at hb
  · subst hb; exact PyProof.Rows.truthy_none ⟨r, rfl⟩
  · subst hb; exact wpAny_truthy_bool ⟨r, rfl⟩
  · subst hb; exact PyProof.Rows.truthy_int ⟨r, rfl⟩

theorem Ev_if {test body orelse : Expr} {pos : Pos} {b : Bool} {p : PV} (h : EvT cx q n env ρ ow test b) (ht : b = true → Ev cx q n env ρ ow body p) (hf : b = false → Ev cx q n env ρ ow orelse p) :
    Ev cx q n env ρ ow (.IfExp test body orelse pos) p := fun A s W E hA S => by
  refine wpAny_IfExp (wpAny_mono (h A s W E hA S) (fun c s₁ h₁ => ?_) fun _ _ e => e)
  obtain ⟨r, rfl⟩ := h₁
  cases c with
  | true => exact wpAny_mono (ht rfl A s₁ W E hA (S.rel r)) (fun v s₂ h₂ => ⟨r.trans h₂.1, h₂.2⟩) fun _ _ e => e
  | false => exact wpAny_mono (hf rfl A s₁ W E hA (S.rel r)) (fun v s₂ h₂ => ⟨r.trans h₂.1, h₂.2⟩) fun _ _ e => e

/-- and | or of two, as values: both are bools -/
theorem Ev_and2 {x y : Expr} {pos : Pos} {a b : Bool} (hx : Ev cx q n env ρ ow x (.bool a)) (hy : a = true → Ev cx q n env ρ ow y (.bool b)) : Ev cx q n env ρ ow (.BoolOp .And [x, y] pos) (.bool (a && b)) := fun A s W E hA S => by
  refine wpAny_And2 (wpAny_mono (hx A s W E hA S) (fun v s₁ h₁ => ?_) fun _ _ e => e)
  obtain ⟨r, k⟩ := h₁
  cases k
  refine wpAny_truthy_bool ?_
  cases a with
  | false => exact ⟨r, .bool _⟩
  | true => exact wpAny_mono (hy rfl A s₁ W E hA (S.rel r)) (fun d s₂ h₂ => ⟨r.trans h₂.1, h₂.2⟩) fun _ _ e => e

theorem EvAll_nil : EvAll cx q n env ρ ow [] [] := fun _ _ _ _ _ _ _ => wpAny_items_nil ⟨.refl _, .nil⟩
theorem EvAll_cons {e : Expr} {es : List Expr} {p : PV} {ps : List PV} (h : Ev cx q n env ρ ow e p) (hs : EvAll cx q n env ρ ow es ps)
    (he : ∀ env, starEach (e :: es) env = (false, eval e env) :: starEach es env := by intro _; rfl) : EvAll cx q n env ρ ow (e :: es) (p :: ps) := fun A s W E pos hA S => by
  refine wpAny_items_cons (wpAny_mono (h A s W E hA S) (fun v s₁ h₁ => ?_) fun _ _ e => e) (he env)
  exact wpAny_mono (hs A s₁ W E pos hA (S.rel h₁.1)) (fun vs s₂ h₂ => ⟨h₁.1.trans h₂.1, .cons (h₂.1.rep (S.vs.rel h₁.1).ok h₁.2) h₂.2⟩) fun _ _ e => e

theorem sizeLine_is : sizeLine = 16777216 := sizeLine_eq

theorem Ev_list {es : List Expr} {pos : Pos} {ps : List PV} (h : EvAll cx q n env ρ ow es ps) (hsz : ps.length ≤ 1000 := by decide) : Ev cx q n env ρ ow (.List es pos) (.list ps) := fun A s W E hA S => by
  refine wpAny_List (wpAny_mono (h A s W E pos hA S) (fun vs s₁ h₁ => ?_) fun _ _ e => e)
  obtain ⟨r, k⟩ := h₁
  refine ⟨by rw [k.length, sizeLine_is]; omega, r.trans (.push _ _), ?_⟩
  exact .list (S.vs.rel r).new (Heap.get?_push_size _ rfl) ((Rel.push (cx := cx) (q := q) s₁ _).repAll (r.ok S.vs.ok) k)
theorem Ev_tuple {es : List Expr} {k : Nat} {pos : Pos} {ps : List PV} (h : EvAll cx q n env ρ ow es ps) (hsz : ps.length ≤ 1000 := by decide) : Ev cx q n env ρ ow (.Tuple es k pos) (.tup ps) := fun A s W E hA S => by
  refine wpAny_Tuple (wpAny_mono (h A s W E pos hA S) (fun vs s₁ h₁ => ?_) fun _ _ e => e)
  obtain ⟨r, k⟩ := h₁
  refine ⟨by rw [k.length, sizeLine_is]; omega, r.trans (.push _ _), ?_⟩
  exact .tup (S.vs.rel r).new (Heap.get?_push_size _ rfl) ((Rel.push (cx := cx) (q := q) s₁ _).repAll (r.ok S.vs.ok) k)

end

/-- facts of the base heap that the calls lean on -/
structure CxOK (cx : Cx) : Prop where
  g : cx.h₁.Ns mainGlobals cx.mg
  b : cx.h₁.Ns builtinsNs cx.mb
  lim : cx.h₁.NoLimit
  base : Based cx.h₁ cx.h₁ cx.c cx.P #[]
  boot : ∀ x : Str, x ≠ "__name__" → cx.mb x = bootBuiltins x

theorem GI.ns (C : CxOK cx) {h : Heap} (x : GI cx h) {a : Addr} {m : Str → Option Value} (e : cx.h₁.Ns a m) : h.Ns a m :=
  let ⟨o, es, ep, e, d, r⟩ := e
  ⟨o, es, ep, x.get e (fun z => by
    have := C.base.tab.2
    rw [z, this] at e; cases e; cases d), d, r⟩
theorem GI.nolimit (C : CxOK cx) {h : Heap} (x : GI cx h) : h.NoLimit := let ⟨mc, e, d⟩ := C.lim; ⟨mc, x.ns C e, d⟩

theorem Ev_global {x : Str} {pos : Pos} {v : Value} {p : PV} (C : CxOK cx) (hx : env.kindOf x = some .globalImplicit) (hv : cx.mg x = some v) (hr : ∀ W h, Rep W h v p)
    (hd : (x == ("__debug__" : Str)) = false := by rfl) : Ev cx q n env ρ ow (.Name x pos) p := fun _ _ _ _ _ S =>
  Name_function_global S.kind hx (loadGlobal_global (S.globals ▸ S.vs.ok.gi.ns C C.g) hv ⟨.refl _, hr _ _⟩) hd

theorem eval_builtin {A : Around} {s : Shared} {W : Addr → Prop} {E : Value → Shared → Prop} {x : Str} {pos : Pos} {v : Value} {Q : Value → Shared → Prop} (C : CxOK cx) (S : ES cx q W env ρ ow s) (hx : env.kindOf x = some .globalImplicit) (hm : cx.mg x = none) (hb : bootBuiltins x = some v)
    (h : Q v s) (hd : (x == ("__debug__" : Str)) = false := by rfl) (hn : x ≠ "__name__" := by decide) : wpAny (model cx.prog cx.w) A (eval (.Name x pos) env) Q E s :=
  Name_function_global S.kind hx (loadGlobal_builtin (S.globals ▸ S.vs.ok.gi.ns C C.g) hm (S.builtins ▸ S.vs.ok.gi.ns C C.b) ((C.boot x hn).trans hb) h) hd

theorem eval_Call_name (x : Str) (xp : Pos) (args : List Expr) (pos : Pos) (env : Env) : eval (.Call (.Name x xp) args [] pos) env = (do callWith pos (← eval (.Name x xp) env) [] (backTo pos (starEach args env)) (backToKw pos (keywordEach [] env))) := rfl

end Mine

namespace Mine
variable {cx : Cx} {q : Bool} {n : Nat} {env : Env} {ρ : Ctxt} {ow : Option (Str × List PV)}

theorem Op.mk1 {k : List Value → Sem Value} {p c : PV} (h : ∀ (A : Around) (s : Shared) (W : Addr → Prop) (a : Value) (E : Value → Shared → Prop), AOK n A → VS cx q W s → Rep W s.heap a p →
    wpAny (model cx.prog cx.w) A (k [a]) (fun v s' => Rel cx q s s' ∧ Rep W s'.heap v c) E s) : Op cx q n k [p] c := by
  intro A s W vs E hA V r
  cases r with | cons r1 r2 => cases r2 with | nil => exact h A s W _ E hA V r1
theorem Op.mk2 {k : List Value → Sem Value} {p p' c : PV} (h : ∀ (A : Around) (s : Shared) (W : Addr → Prop) (a b : Value) (E : Value → Shared → Prop), AOK n A → VS cx q W s → Rep W s.heap a p → Rep W s.heap b p' →
    wpAny (model cx.prog cx.w) A (k [a, b]) (fun v s' => Rel cx q s s' ∧ Rep W s'.heap v c) E s) : Op cx q n k [p, p'] c := by
  intro A s W vs E hA V r
  cases r with | cons r1 r2 => cases r2 with | cons r2 r3 => cases r3 with | nil => exact h A s W _ _ E hA V r1 r2

abbrev bop (op : Operator) : List Value → Sem Value := fun vs => binaryOp op (vs.getD 0 .none) (vs.getD 1 .none)
abbrev cop (op : CmpOp) : List Value → Sem Value := fun vs => compareOp op (vs.getD 0 .none) (vs.getD 1 .none)
abbrev uop (op : UnaryOp) : List Value → Sem Value := fun vs => unaryOp op (vs.getD 0 .none)

section IntOps
variable {a b : Int}
theorem op_add : Op cx q n (bop .Add) [.int a, .int b] (.int (a + b)) := .mk2 fun A s W x y E hA V rx ry => by cases rx; cases ry; exact add_int ⟨tokk _ _, .int _ _⟩
theorem op_sub : Op cx q n (bop .Sub) [.int a, .int b] (.int (a - b)) := .mk2 fun A s W x y E hA V rx ry => by cases rx; cases ry; exact sub_int ⟨tokk _ _, .int _ _⟩
theorem op_mul (hm : IntMulOk a b) : Op cx q n (bop .Mult) [.int a, .int b] (.int (a * b)) := .mk2 fun A s W x y E hA V rx ry => by cases rx; cases ry; exact mul_int ⟨tokk _ _, .int _ _⟩ hm
theorem op_fdiv (hb : b ≠ 0) (hs : b.natAbs < 1073741824 := by decide) : Op cx q n (bop .FloorDiv) [.int a, .int b] (.int (a.fdiv b)) := .mk2 fun A s W x y E hA V rx ry => by cases rx; cases ry; exact floordiv_int hb ⟨tokk _ _, .int _ _⟩ (.inl (PyProof.noPylong_small hs))
theorem op_fmod (hb : b ≠ 0) : Op cx q n (bop .Mod) [.int a, .int b] (.int (a.fmod b)) := .mk2 fun A s W x y E hA V rx ry => by cases rx; cases ry; exact mod_int hb ⟨tokk _ _, .int _ _⟩
theorem op_shl (h0 : 0 ≤ b) (h1 : b ≤ 1000000) (ha : a.natAbs < 2 ^ 64) : Op cx q n (bop .LShift) [.int a, .int b] (.int (a * 2 ^ b.toNat)) := .mk2 fun A s W x y E hA V rx ry => by
  cases rx; cases ry; exact lshift_int_small h0 h1 ha ⟨tokk _ _, .int _ _⟩
theorem op_shr (h0 : 0 ≤ b) : Op cx q n (bop .RShift) [.int a, .int b] (.int (a.fdiv (2 ^ b.toNat))) := .mk2 fun A s W x y E hA V rx ry => by cases rx; cases ry; exact rshift_int h0 ⟨tokk _ _, .int _ _⟩
theorem op_and : Op cx q n (bop .BitAnd) [.int a, .int b] (.int (Builtin.bitAnd a b)) := .mk2 fun A s W x y E hA V rx ry => by cases rx; cases ry; exact and_int ⟨tokk _ _, .int _ _⟩
theorem op_or : Op cx q n (bop .BitOr) [.int a, .int b] (.int (Builtin.bitOr a b)) := .mk2 fun A s W x y E hA V rx ry => by cases rx; cases ry; exact or_int ⟨tokk _ _, .int _ _⟩
theorem op_xor : Op cx q n (bop .BitXor) [.int a, .int b] (.int (Builtin.bitXor a b)) := .mk2 fun A s W x y E hA V rx ry => by cases rx; cases ry; exact xor_int ⟨tokk _ _, .int _ _⟩
theorem op_pow (h0 : 0 ≤ b) (hsz : (Builtin.Int.intBits a : Int) * b ≤ 2 ^ 27) : Op cx q n (bop .Pow) [.int a, .int b] (.int (a ^ b.toNat)) := .mk2 fun A s W x y E hA V rx ry => by cases rx; cases ry; exact pow_int h0 hsz ⟨tokk _ _, .int _ _⟩
theorem op_neg : Op cx q n (uop .USub) [.int a] (.int (-a)) := .mk1 fun A s W x E hA V rx => by cases rx; exact neg_int ⟨tokk _ _, .int _ _⟩
theorem op_lt : Op cx q n (cop .Lt) [.int a, .int b] (.bool (decide (a < b))) := .mk2 fun A s W x y E hA V rx ry => by cases rx; cases ry; exact lt_int ⟨.refl _, .bool _⟩
theorem op_gt : Op cx q n (cop .Gt) [.int a, .int b] (.bool (decide (b < a))) := .mk2 fun A s W x y E hA V rx ry => by cases rx; cases ry; exact gt_int ⟨.refl _, .bool _⟩
theorem op_le : Op cx q n (cop .LtE) [.int a, .int b] (.bool (decide (a ≤ b))) := .mk2 fun A s W x y E hA V rx ry => by cases rx; cases ry; exact le_int ⟨.refl _, .bool _⟩
theorem op_ge : Op cx q n (cop .GtE) [.int a, .int b] (.bool (decide (b ≤ a))) := .mk2 fun A s W x y E hA V rx ry => by cases rx; cases ry; exact ge_int ⟨.refl _, .bool _⟩
theorem op_eq : Op cx q n (cop .Eq) [.int a, .int b] (.bool (decide (a = b))) := .mk2 fun A s W x y E hA V rx ry => by cases rx; cases ry; exact eq_int ⟨.refl _, .bool _⟩
theorem op_ne : Op cx q n (cop .NotEq) [.int a, .int b] (.bool (!decide (a = b))) := .mk2 fun A s W x y E hA V rx ry => by cases rx; cases ry; exact ne_int ⟨.refl _, .bool _⟩
end IntOps

theorem op_not {b : Bool} : Op cx q n (uop .Not) [.bool b] (.bool (!b)) := .mk1 fun A s W x E hA V rx => by cases rx; exact not_value (wpAny_truthy_bool ⟨.refl _, .bool _⟩)

section StrOps
variable {x y : Str}
theorem op_add_str (hsz : x.length + y.length ≤ 10000) : Op cx q n (bop .Add) [.str x, .str y] (.str (x ++ y)) := .mk2 fun A s W a b E hA V rx ry => by
  cases rx; cases ry; exact add_str (fun _ _ => ⟨tokk _ _, .str _ _⟩) (by rw [sizeLine_eq]; omega)
theorem op_eq_str : Op cx q n (cop .Eq) [.str x, .str y] (.bool (x == y)) := .mk2 fun A s W a b E hA V rx ry => by cases rx; cases ry; exact eq_str ⟨.refl _, .bool _⟩
theorem op_ne_str : Op cx q n (cop .NotEq) [.str x, .str y] (.bool (x != y)) := .mk2 fun A s W a b E hA V rx ry => by cases rx; cases ry; exact ne_str ⟨.refl _, .bool _⟩
theorem op_in_str : Op cx q n (cop .In) [.str x, .str y] (.bool (Txt.contains y x)) := .mk2 fun A s W a b E hA V rx ry => by cases rx; cases ry; exact in_str ⟨.refl _, .bool _⟩
end StrOps

/-- the same as data -/
def PV.dat : PV → PyData
  | .none => .none
  | .bool b => .bool b
  | .int i => .int i
  | .str s => .str s
  | .list xs => .list (datAll xs)
  | .tup xs => .tuple (datAll xs)
  | .loose xs => .list (datAll xs)
where datAll : List PV → List PyData
  | [] => []
  | x :: xs => x.dat :: datAll xs

mutual
theorem Rep.reads {W : Addr → Prop} {h : Heap} : ∀ {v : Value} {p : PV}, Rep W h v p → ∃ as, Reads h v p.dat as
  | _, _, .none => ⟨_, .none⟩
  | _, _, .bool b => ⟨_, .bool b⟩
  | _, _, .int i t => ⟨_, .int i t⟩
  | _, _, .str x t => ⟨_, .str x t⟩
  | _, _, .list w g r => let ⟨_, r'⟩ := RepAll.reads r; ⟨_, .list g rfl rfl r'⟩
  | _, _, .tup w g r => let ⟨_, r'⟩ := RepAll.reads r; ⟨_, .tuple g rfl rfl r'⟩
  | _, _, .loose w g c d r => let ⟨_, r'⟩ := RepAll.reads r; ⟨_, .list g c d r'⟩
theorem RepAll.reads {W : Addr → Prop} {h : Heap} : ∀ {vs : List Value} {ps : List PV}, RepAll W h vs ps → ∃ as, ReadsAll h vs (PV.dat.datAll ps) as
  | _, _, .nil => ⟨_, .nil⟩
  | _, _, .cons r rs => let ⟨_, r'⟩ := Rep.reads r; let ⟨_, rs'⟩ := RepAll.reads rs; ⟨_, .cons r' rs'⟩
end

theorem op_eq_dat {a b : PV} (ha : SeqAt.shaped a.dat = true) (hb : SeqAt.shaped b.dat = true) : Op cx q n (cop .Eq) [a, b] (.bool (PyData.eqv a.dat b.dat)) := .mk2 fun A s W x y E hA V rx ry => by
  obtain ⟨_, r1⟩ := rx.reads
  obtain ⟨_, r2⟩ := ry.reads
  exact SeqAt.compareEq_shaped r1 r2 ha hb (by have := hA.units; have := cLine_is; omega) ⟨.refl _, .bool _⟩
theorem op_ne_dat {a b : PV} (ha : SeqAt.shaped a.dat = true) (hb : SeqAt.shaped b.dat = true) : Op cx q n (cop .NotEq) [a, b] (.bool (!PyData.eqv a.dat b.dat)) := .mk2 fun A s W x y E hA V rx ry => by
  obtain ⟨_, r1⟩ := rx.reads
  obtain ⟨_, r2⟩ := ry.reads
  exact SeqAt.compareNe_shaped r1 r2 ha hb (by have := hA.units; have := cLine_is; omega) ⟨.refl _, .bool _⟩

def PV.isNone : PV → Bool
  | .none => true
  | _ => false
theorem Rep.isNone {W : Addr → Prop} {h : Heap} {v : Value} {p : PV} (r : Rep W h v p) : (v == .none) = p.isNone := by cases r <;> rfl
theorem op_is_none {a : PV} : Op cx q n (cop .Is) [a, .none] (.bool a.isNone) := .mk2 fun A s W x y E hA V rx ry => by
  cases ry; exact is_none ⟨.refl _, by show Rep W s.heap (.bool _) _; first | (rw [← rx.isNone]; exact .bool _)⟩
theorem op_isnot_none {a : PV} : Op cx q n (cop .IsNot) [a, .none] (.bool (!a.isNone)) := .mk2 fun A s W x y E hA V rx ry => by
  cases ry; exact isNot_none ⟨.refl _, by show Rep W s.heap (.bool _) _; first | (rw [← rx.isNone]; exact .bool _)⟩

section ListOps
variable {xs ys : List PV}
theorem op_add_list (hsz : xs.length + ys.length ≤ 10000) : Op cx q n (bop .Add) [.list xs, .list ys] (.list (xs ++ ys)) := .mk2 fun A s W a b E hA V rx ry => by
  cases rx with | list w g r => cases ry with | list w' g' r' =>
  have l1 := r.length
  have l2 := r'.length
  simp only [Array.length_toList] at l1 l2
  refine P.add_list g g' ⟨.push _ _, .list V.new (Heap.get?_push_size _ rfl) ?_⟩ (by rw [sizeLine_eq]; omega)
  rw [Array.toList_append]
  exact (Rel.push (cx := cx) (q := q) s _).repAll V.ok (r.append r')

theorem op_len_list (hsz : xs.length ≤ 100000) : Op cx q n (fun vs => call (.builtin "len") vs) [.list xs] (.int xs.length) := .mk1 fun A s W a E hA V rx => by
  cases rx with | list w g r =>
  have l1 := r.length
  simp only [Array.length_toList] at l1
  refine call_len_list ⟨_, g, rfl, _, rfl⟩ (by rw [l1]; omega) ⟨tokk _ _, ?_⟩
  rw [l1]; exact .int _ _

theorem op_list_of (hsz : xs.length ≤ 100000) : Op cx q n (fun vs => call (.type "list") vs) [.list xs] (.list xs) := .mk1 fun A s W a E hA V rx => by
  cases rx with | list w g r =>
  have l1 := r.length
  simp only [Array.length_toList] at l1
  refine call_list_seq _ (.inl rfl) g rfl rfl (fun h' c' k e => ?_) (by rw [sizeLine_eq]; omega)
  have R : Rel cx q s { s with heap := h' } := .of_keeps ⟨h', s.toks, rfl, k⟩
  exact ⟨R, .list V.new e (R.repAll V.ok r)⟩

theorem foldl_flat (items : Array Value) : ∀ (k : Nat) (acc : Array Value), (List.foldl (fun x1 x2 => x1 ++ x2) acc (List.replicate k items)).toList = acc.toList ++ (List.replicate k items.toList).flatten := by
  intro k
  induction k with
  | zero => intro acc; simp
  | succ k ih => intro acc; rw [List.replicate_succ, List.foldl_cons, ih]; simp [List.replicate_succ]
end ListOps
end Mine

namespace Mine
variable {cx : Cx} {q : Bool} {n : Nat} {env : Env} {ρ : Ctxt} {ow : Option (Str × List PV)}

def PV.scalar : PV → Bool
  | .list _ => false
  | .tup _ => false
  | .loose _ => false
  | _ => true
theorem Rep.scalar {W W' : Addr → Prop} {h h' : Heap} {v : Value} {p : PV} (r : Rep W h v p) (e : p.scalar = true) : Rep W' h' v p := by
  cases r with
  | none => exact .none
  | bool b => exact .bool b
  | int i t => exact .int i t
  | str x t => exact .str x t
  | list => cases e
  | tup => cases e
  | loose => cases e

abbrev noW : Addr → Prop := fun _ => False
/-- an expression gives p for a moment: p may be the frame's own list -/
def EvR (cx : Cx) (q : Bool) (n : Nat) (env : Env) (ρ : Ctxt) (ow : Option (Str × List PV)) (e : Expr) (p : PV) : Prop :=
  ∀ (A : Around) (s : Shared) (W : Addr → Prop) (E : Value → Shared → Prop), AOK n A → ES cx q W env ρ ow s →
    wpAny (model cx.prog cx.w) A (eval e env) (fun v s' => Rel cx q s s' ∧ Rep noW s'.heap v p) E s
theorem Ev.r {e : Expr} {p : PV} (x : Ev cx q n env ρ ow e p) : EvR cx q n env ρ ow e p := fun A s W E hA S =>
  wpAny_mono (x A s W E hA S) (fun v s' h => ⟨h.1, h.2.weak fun _ _ _ _ => id⟩) fun _ _ e => e
theorem EvR.ev {e : Expr} {p : PV} (x : EvR cx q n env ρ ow e p) (hs : p.scalar = true) : Ev cx q n env ρ ow e p := fun A s W E hA S =>
  wpAny_mono (x A s W E hA S) (fun v s' h => ⟨h.1, h.2.scalar hs⟩) fun _ _ e => e
theorem EvR_own {x : Str} {pos : Pos} {xs : List PV} (h : ow = some (x, xs)) (hd : (x == ("__debug__" : Str)) = false := by rfl) : EvR cx q n env ρ ow (.Name x pos) (.list xs) := fun A s W E hA S => by
  obtain ⟨a, w, hv, items, m, g, r⟩ := S.own x xs h
  exact wpAny_Name (load_var S.kind hv ⟨.refl _, .list id g (r.weak fun _ _ _ _ => id)⟩) hd

theorem VS.none {W : Addr → Prop} {s : Shared} (x : VS cx q W s) : VS cx q noW s := ⟨x.ok, fun _ h => h.elim⟩

/-- a call of a built-in function -/
theorem Ev_call_builtin {x : Str} {xp pos : Pos} {id : String} {e : Expr} {es : List Expr} {p : PV} {ps : List PV} {c : PV} (C : CxOK cx) (hx : env.kindOf x = some .globalImplicit) (hm : cx.mg x = none) (hb : bootBuiltins x = some (.builtin id))
    (ha : EvAll cx q n env ρ ow (e :: es) (p :: ps)) (ho : Op cx q n (fun vs => call (.builtin id) vs) (p :: ps) c)
    (he : ∀ env, starEach (e :: es) env = (false, eval e env) :: starEach es env := by intro _; rfl) (hplain : ∀ pos env, (backTo pos (starEach (e :: es) env)).any (·.1) = false := by intro _ _; rfl)
    (hd : (x == ("__debug__" : Str)) = false := by rfl) (hn : x ≠ "__name__" := by decide) : Ev cx q n env ρ ow (.Call (.Name x xp) (e :: es) [] pos) c := fun A s W E hA S => by
  rw [eval_Call_name]
  refine wpAny_bind (eval_builtin C S hx hm hb ?_ hd hn)
  refine callWith_builtin (hplain _ _) ?_
  have key := ha A s W E pos hA S
  rw [he] at key ⊢
  refine evalArgs_plain (wpAny_mono key (fun vs s₁ h₁ => ?_) fun _ _ e => e)
  rw [List.nil_append]
  exact wpAny_mono (ho A s₁ W vs E hA (S.vs.rel h₁.1) h₁.2) (fun v s₂ h₂ => ⟨h₁.1.trans h₂.1, h₂.2⟩) fun _ _ e => e

/-- a built-in of one argument that may be the own list; the answer is a plain one -/
theorem Ev_call_builtin1 {x : Str} {xp pos : Pos} {id : String} {e : Expr} {p : PV} {c : PV} (C : CxOK cx) (hx : env.kindOf x = some .globalImplicit) (hm : cx.mg x = none) (hb : bootBuiltins x = some (.builtin id))
    (ha : EvR cx q n env ρ ow e p) (ho : Op cx q n (fun vs => call (.builtin id) vs) [p] c) (hc : c.scalar = true)
    (he : ∀ env, starEach [e] env = [(false, eval e env)] := by intro _; rfl)
    (hd : (x == ("__debug__" : Str)) = false := by rfl) (hn : x ≠ "__name__" := by decide) : Ev cx q n env ρ ow (.Call (.Name x xp) [e] [] pos) c := fun A s W E hA S => by
  rw [eval_Call_name]
  refine wpAny_bind (eval_builtin C S hx hm hb ?_ hd hn)
  have hpl : (backTo pos (starEach [e] env)).any (·.1) = false := by rw [he]; rfl
  refine callWith_builtin hpl ?_
  have hs : starEach [e] env = (false, eval e env) :: starEach [] env := he env
  have key : wpAny (model cx.prog cx.w) A (spliced (backTo pos (starEach [e] env))) (fun vs s' => Rel cx q s s' ∧ RepAll noW s'.heap vs [p]) E s :=
    wpAny_items_cons (wpAny_mono (ha A s W E hA S) (fun v s₁ h₁ => wpAny_items_nil ⟨h₁.1, .cons h₁.2 .nil⟩) fun _ _ e => e) hs
  rw [hs] at key ⊢
  refine evalArgs_plain (wpAny_mono key (fun vs s₁ h₁ => ?_) fun _ _ e => e)
  rw [List.nil_append]
  exact wpAny_mono (ho A s₁ noW vs E hA (S.vs.rel h₁.1).none h₁.2) (fun v s₂ h₂ => ⟨h₁.1.trans h₂.1, h₂.2.scalar hc⟩) fun _ _ e => e

theorem Ev_list_of {x : Str} {xp pos : Pos} {e : Expr} {xs : List PV} (C : CxOK cx) (hx : env.kindOf x = some .globalImplicit) (hm : cx.mg x = none) (hb : bootBuiltins x = some (.type "list"))
    (ha : Ev cx q n env ρ ow e (.list xs)) (hsz : xs.length ≤ 100000) (he : ∀ env, starEach [e] env = [(false, eval e env)] := by intro _; rfl)
    (hd : (x == ("__debug__" : Str)) = false := by rfl) (hn : x ≠ "__name__" := by decide) : Ev cx q n env ρ ow (.Call (.Name x xp) [e] [] pos) (.list xs) := fun A s W E hA S => by
  rw [eval_Call_name]
  refine wpAny_bind (eval_builtin C S hx hm hb ?_ hd hn)
  refine PySem.Pv.callWith_type1 (rest := []) ?_ (he env)
  refine wpAny_items_cons (wpAny_mono (ha A s W E hA S) (fun v s₁ h₁ => wpAny_items_nil ?_) fun _ _ e => e) (he env)
  exact wpAny_mono (op_list_of (n := n) hsz A s₁ W [v] E hA (S.vs.rel h₁.1) (.cons h₁.2 .nil)) (fun v s₂ h₂ => ⟨h₁.1.trans h₂.1, h₂.2⟩) fun _ _ e => e

theorem op_ord {c : Nat} : Op cx q n (fun vs => call (.builtin "ord") vs) [.str ⟨#[c]⟩] (.int c) := .mk1 fun A s W a E hA V rx => by
  cases rx; exact P.ord_of_char ⟨tokk _ _, .int _ _⟩
theorem op_chr {i : Int} (h0 : 0 ≤ i) (h1 : i ≤ 1114111) : Op cx q n (fun vs => call (.builtin "chr") vs) [.int i] (.str ⟨#[i.toNat]⟩) := .mk1 fun A s W a E hA V rx => by
  cases rx; exact chr_of_range h0 h1 ⟨tokk _ _, .str _ _⟩
theorem op_abs {i : Int} : Op cx q n (fun vs => call (.builtin "abs") vs) [.int i] (.int (if i < 0 then -i else i)) := .mk1 fun A s W a E hA V rx => by
  cases rx; exact call_abs_int fun u tk => ⟨tokk _ _, .int _ _⟩

section Items
variable {value slice : Expr} {pos : Pos}
theorem Ev_item_list {xs : List PV} {k : Int} {p : PV} (hv : EvR cx q n env ρ ow value (.list xs)) (hi : Ev cx q n env ρ ow slice (.int k)) (h0 : 0 ≤ k) (hx : xs[k.toNat]? = some p) (hsz : xs.length ≤ 100000) (hs : p.scalar = true)
    (hsu : ∀ o i, subscripted slice false o i = operate [o, i] (getItem o i) := by intro _ _; rfl) : Ev cx q n env ρ ow (.Subscript value slice pos) p := fun A s W E hA S => by
  refine Subscript_ (wpAny_mono (hv A s W E hA S) (fun v s₁ h₁ => ?_) fun _ _ e => e)
  refine wpAny_mono (hi A s₁ W E hA (S.rel h₁.1)) (fun u s₂ h₂ => ?_) fun _ _ e => e
  have hr := h₂.1.rep (S.vs.rel h₁.1).ok h₁.2
  obtain ⟨r2, hk⟩ := h₂
  cases hk
  cases hr with | list w g r =>
  obtain ⟨x, hx', rx⟩ := r.get hx
  have hlt : k.toNat < xs.length := (List.getElem?_eq_some_iff.mp hx).1
  refine tail_any (T := "list") ⟨_, g, rfl⟩ slot_list_getitem.lookup (wpAny_getItem_list ⟨_, g, rfl, _, rfl⟩ h0 (by omega) (x := x) (by simpa using hx') ?_) (hsu _ _)
  exact ⟨h₁.1.trans r2, rx.scalar hs⟩

theorem Ev_item_str {x : Str} {k : Int} (hv : Ev cx q n env ρ ow value (.str x)) (hi : Ev cx q n env ρ ow slice (.int k)) (h0 : 0 ≤ k) (hx : k < x.length) (hsz : x.length ≤ 100000)
    (hsu : ∀ o i, subscripted slice false o i = operate [o, i] (getItem o i) := by intro _ _; rfl) (ht : ∀ x t r, letTemporaryGo value (.str x t) r = pure () := by intro _ _ _; rfl) :
    Ev cx q n env ρ ow (.Subscript value slice pos) (.str (Txt.item x k)) := fun A s W E hA S => by
  refine Subscript_ (wpAny_mono (hv A s W E hA S) (fun v s₁ h₁ => ?_) fun _ _ e => e)
  refine wpAny_mono (hi A s₁ W E hA (S.rel h₁.1)) (fun u s₂ h₂ => ?_) fun _ _ e => e
  obtain ⟨r1, hk1⟩ := h₁
  obtain ⟨r2, hk⟩ := h₂
  cases hk
  cases hk1
  exact item_str (fitsSsize_of (N := 9223372036854775808) (by omega) (by omega) (Int.le_refl _)) (by omega) hx (fun _ => ⟨(r1.trans r2).tok _, .str _ _⟩) (hsu _ _) (fun r => ht _ _ r)

/-- a part of a slice: left out, or an int -/
def EvPart (cx : Cx) (q : Bool) (n : Nat) (env : Env) (ρ : Ctxt) (ow : Option (Str × List PV)) : Option Expr → Option Int → Prop
  | none, none => True
  | some e, some i => Ev cx q n env ρ ow e (.int i)
  | _, _ => False
theorem EvPart.run {e : Option Expr} {i : Option Int} (h : EvPart cx q n env ρ ow e i) {A : Around} {s : Shared} {W : Addr → Prop} {E : Value → Shared → Prop} (hA : AOK n A) (S : ES cx q W env ρ ow s) :
    wpAny (model cx.prog cx.w) A (evalPart e env) (fun v s' => Rel cx q s s' ∧ ∃ t, v = partValue (i.map (·, t))) E s := by
  cases e with
  | none => cases i with
    | none => rw [evalPart_none]; exact wpAny_pure ⟨.refl _, 0, rfl⟩
    | some i => exact h.elim
  | some e => cases i with
    | none => exact h.elim
    | some i =>
      rw [evalPart_some]
      refine wpAny_mono (h A s W E hA S) (fun v s' r => ⟨r.1, ?_⟩) fun _ _ e => e
      obtain ⟨_, k⟩ := r
      cases k
      exact ⟨_, rfl⟩
theorem isPart_of {i : Option Int} {t : Tok} : IsPart (partValue (i.map (·, t))) i := by cases i <;> constructor

theorem Ev_slice_list {lower upper : Option Expr} {sp : Pos} {xs ys : List PV} {lo hi : Option Int} (hv : Ev cx q n env ρ ow value (.list xs)) (hl : EvPart cx q n env ρ ow lower lo) (hu : EvPart cx q n env ρ ow upper hi)
    (hsz : xs.length ≤ 100000) (he : ys = (xs.drop (lo.elim 0 (clipAt xs.length))).take (hi.elim xs.length (clipAt xs.length) - lo.elim 0 (clipAt xs.length))) :
    Ev cx q n env ρ ow (.Subscript value (.Slice lower upper none sp) pos) (.list ys) := fun A s W E hA S => by
  refine Subscript_ (wpAny_mono (hv A s W E hA S) (fun v s₁ h₁ => ?_) fun _ _ e => e)
  refine wpAny_Slice (wpAny_mono (hl.run hA (S.rel h₁.1)) (fun vl s₂ h₂ => ?_) fun _ _ e => e)
  refine wpAny_mono (hu.run hA ((S.rel h₁.1).rel h₂.1)) (fun vu s₃ h₃ => ?_) fun _ _ e => e
  rw [evalPart_none]
  refine wpAny_pure ?_
  obtain ⟨r1, k1⟩ := h₁
  obtain ⟨r2, t2, rfl⟩ := h₂
  obtain ⟨r3, t3, rfl⟩ := h₃
  have S2 := (S.rel r1).rel r2
  have S3 := S2.rel r3
  have hr := r3.rep S2.vs.ok (r2.rep (S.rel r1).vs.ok k1)
  cases hr with | list w g r =>
  rename_i a items m
  have l1 := r.length
  simp only [Array.length_toList] at l1
  generalize hob : ({ cls := .type "slice", data := .fields #[partValue (lo.map (·, t2)), partValue (hi.map (·, t3)), .none] } : Obj) = ob
  have rp : Rel cx q s₃ { s₃ with heap := s₃.heap.push ob } := .push _ _
  have S4 := S3.rel rp
  have g' := rp.get S3.vs.ok g (solid_seq _ _ _)
  refine tail_any (T := "list") (ops := [.ref s₃.heap.objs.size, .ref a]) ⟨_, g', rfl⟩ slot_list_getitem.lookup (wpAny_getItem_list_slice (st := none) (s := { s₃ with heap := s₃.heap.push ob }) (items := items) ⟨_, g', rfl, _, rfl⟩
    ⟨ob, Heap.get?_push_size _ (by rw [← hob]; rfl), by rw [← hob], by rw [← hob]⟩ isPart_of isPart_of .none (by simp) ?_ (by rw [sizeLine_eq]; omega)) rfl
  have rp2 : Rel cx q { s₃ with heap := s₃.heap.push ob } { s₃ with heap := (s₃.heap.push ob).push (seqObj "list" (slicePick items lo hi none) 0) } := .push _ _
  refine ⟨(((r1.trans r2).trans r3).trans rp).trans rp2, .list S4.vs.new (Heap.get?_push_size _ rfl) (rp2.repAll S4.vs.ok (rp.repAll S3.vs.ok ?_))⟩
  rw [slicePick_plain, he, ← l1]
  exact (r.drop _).take _

theorem Ev_slice_str {lower upper : Option Expr} {sp : Pos} {x : Str} {lo hi : Option Int} (hv : Ev cx q n env ρ ow value (.str x)) (hl : EvPart cx q n env ρ ow lower lo) (hu : EvPart cx q n env ρ ow upper hi)
    (hsz : x.length ≤ 100000) :
    Ev cx q n env ρ ow (.Subscript value (.Slice lower upper none sp) pos) (.str (Txt.slice x lo hi)) := fun A s W E hA S => by
  refine Subscript_ (wpAny_mono (hv A s W E hA S) (fun v s₁ h₁ => ?_) fun _ _ e => e)
  refine wpAny_Slice (wpAny_mono (hl.run hA (S.rel h₁.1)) (fun vl s₂ h₂ => ?_) fun _ _ e => e)
  refine wpAny_mono (hu.run hA ((S.rel h₁.1).rel h₂.1)) (fun vu s₃ h₃ => ?_) fun _ _ e => e
  rw [evalPart_none]
  refine wpAny_pure ?_
  obtain ⟨r1, k1⟩ := h₁
  obtain ⟨r2, t2, rfl⟩ := h₂
  obtain ⟨r3, t3, rfl⟩ := h₃
  cases k1 with | str _ t =>
  generalize hob : ({ cls := .type "slice", data := .fields #[partValue (lo.map (·, t2)), partValue (hi.map (·, t3)), .none] } : Obj) = ob
  have rp : Rel cx q s₃ { s₃ with heap := s₃.heap.push ob } := .push _ _
  refine tail_any (T := "str") (ops := [.ref s₃.heap.objs.size, .str x t]) (typeIs_str _ _ _) F.slot_str_getitem.lookup ?_ rfl
  refine wpAny_getItem_str_slice (l := lo.map (·, t2)) (u := hi.map (·, t3)) (st := none) ⟨ob, Heap.get?_push_size _ (by rw [← hob]; rfl), by rw [← hob], by rw [← hob]; rfl⟩ rfl ?_
  have e1 : (lo.map (·, t2)).map (·.1) = lo := by cases lo <;> rfl
  have e2 : (hi.map (·, t3)).map (·.1) = hi := by cases hi <;> rfl
  unfold sliceMade slicePicked
  rw [e1, e2]
  refine post_val_or_str ⟨Nat.le_trans (Txt.slice_le x lo hi) (by rw [sizeLine_eq]; omega), fun t' k => ⟨(((r1.trans r2).trans r3).trans rp).tok k, .str _ _⟩⟩
end Items

section Methods
variable {o e : Expr} {apos pos : Pos} {x y : Str}
theorem Ev_lower (h : Ev cx q n env ρ ow o (.str x)) (hsz : x.length ≤ 100000) (hb : attributeBase o "lower" env (eval o env) = eval o env := by rfl) (hl : (apos.endLine == pos.line) = true := by rfl) :
    Ev cx q n env ρ ow (.Call (.Attribute o "lower" apos) [] [] pos) (.str (Txt.lower x)) := fun A s W E hA S => by
  refine Call_method0 hb hl (wpAny_mono (h A s W E hA S) (fun v s₁ h₁ => ?_) fun _ _ e => e)
  obtain ⟨r, k⟩ := h₁
  cases k
  exact SBL.lower (by omega) fun _ => ⟨r.tok _, .str _ _⟩
theorem Ev_upper (h : Ev cx q n env ρ ow o (.str x)) (hsz : x.length ≤ 100000) (hb : attributeBase o "upper" env (eval o env) = eval o env := by rfl) (hl : (apos.endLine == pos.line) = true := by rfl) :
    Ev cx q n env ρ ow (.Call (.Attribute o "upper" apos) [] [] pos) (.str (Txt.upper x)) := fun A s W E hA S => by
  refine Call_method0 hb hl (wpAny_mono (h A s W E hA S) (fun v s₁ h₁ => ?_) fun _ _ e => e)
  obtain ⟨r, k⟩ := h₁
  cases k
  exact SBL.upper (by omega) fun _ => ⟨r.tok _, .str _ _⟩
theorem Ev_find (h : Ev cx q n env ρ ow o (.str x)) (h' : Ev cx q n env ρ ow e (.str y)) (hb : attributeBase o "find" env (eval o env) = eval o env := by rfl) (hl : (apos.endLine == pos.line) = true := by rfl) (he : starEach [e] env = [(false, eval e env)] := by rfl) :
    Ev cx q n env ρ ow (.Call (.Attribute o "find" apos) [e] [] pos) (.int (Txt.find x y)) := fun A s W E hA S => by
  refine Call_method1 hb he hl (wpAny_mono (h A s W E hA S) (fun v s₁ h₁ => ?_) fun _ _ e => e)
  obtain ⟨r, k⟩ := h₁
  cases k
  refine SB.find (wpAny_mono (h' A s₁ W E hA (S.rel r)) (fun v s₂ h₂ => ?_) fun _ _ e => e)
  obtain ⟨r2, k2⟩ := h₂
  cases k2
  exact ⟨_, _, rfl, (r.trans r2).tok _, .int _ _⟩
theorem Ev_rfind (h : Ev cx q n env ρ ow o (.str x)) (h' : Ev cx q n env ρ ow e (.str y)) (hb : attributeBase o "rfind" env (eval o env) = eval o env := by rfl) (hl : (apos.endLine == pos.line) = true := by rfl) (he : starEach [e] env = [(false, eval e env)] := by rfl) :
    Ev cx q n env ρ ow (.Call (.Attribute o "rfind" apos) [e] [] pos) (.int (Txt.rfind x y)) := fun A s W E hA S => by
  refine Call_method1 hb he hl (wpAny_mono (h A s W E hA S) (fun v s₁ h₁ => ?_) fun _ _ e => e)
  obtain ⟨r, k⟩ := h₁
  cases k
  refine SB.rfind (wpAny_mono (h' A s₁ W E hA (S.rel r)) (fun v s₂ h₂ => ?_) fun _ _ e => e)
  obtain ⟨r2, k2⟩ := h₂
  cases k2
  exact ⟨_, _, rfl, (r.trans r2).tok _, .int _ _⟩

theorem repAll_strs {W : Addr → Prop} {h : Heap} : ∀ {vs : List Value} {ts : List Str}, RepAll W h vs (ts.map .str) → ∃ l : List (Str × Tok), vs = strValues l ∧ l.map (·.1) = ts
  | vs, [], r => by cases r; exact ⟨[], rfl, rfl⟩
  | vs, t :: ts, r => by
    cases r with | cons a b =>
    cases a with | str _ k =>
    obtain ⟨l, rfl, e⟩ := repAll_strs b
    exact ⟨(t, k) :: l, rfl, by simp [e]⟩
theorem Ev_join {ts : List Str} (h : Ev cx q n env ρ ow o (.str x)) (h' : EvR cx q n env ρ ow e (.list (ts.map .str))) (hok : JoinOk x ts = true) (hb : attributeBase o "join" env (eval o env) = eval o env := by rfl) (hl : (apos.endLine == pos.line) = true := by rfl) (he : starEach [e] env = [(false, eval e env)] := by rfl) :
    Ev cx q n env ρ ow (.Call (.Attribute o "join" apos) [e] [] pos) (.str (Txt.join x ts)) := fun A s W E hA S => by
  refine Call_method1 hb he hl (wpAny_mono (h A s W E hA S) (fun v s₁ h₁ => ?_) fun _ _ e => e)
  obtain ⟨r, k⟩ := h₁
  cases k
  refine SB.join (wpAny_mono (h' A s₁ W E hA (S.rel r)) (fun v s₂ h₂ => ?_) fun _ _ e => e)
  obtain ⟨r2, k2⟩ := h₂
  cases k2 with | list w g r =>
  obtain ⟨l, e, el⟩ := repAll_strs r
  exact ⟨_, l, rfl, ⟨_, g, rfl, _, by rw [← e]⟩, ts, el, hok, fun t' k => ⟨(by assumption : Rel cx q s s₁).trans r2 |>.tok _, .str _ _⟩⟩
end Methods

section More
variable {xs : List PV}
theorem op_mul_list {i : Int} (h0 : 0 ≤ i) (hsz : xs.length * i.toNat ≤ 10000) (hi : i ≤ 10000) : Op cx q n (bop .Mult) [.list xs, .int i] (.list (List.replicate i.toNat xs).flatten) := .mk2 fun A s W a b E hA V rx ry => by
  cases ry with | int _ u =>
  cases rx with | list w g r =>
  rename_i l items k
  have l1 := r.length
  simp only [Array.length_toList] at l1
  refine wpAny_binaryOp_repeat_ref (T := "list") (U := "int") (by decide) ⟨_, g, rfl⟩ (fun s' => typeIs_int s' i u) noFill_list_mul F.fills_int_mul F.slot_int_rmul repeat_list F.slot_int_index.lookup
    (call_meets F.slot_int_rmul (typeIs_int s i u) F.entry_int_rmul (F.args_int_rmul_2 _ _) (int___rmul___int_list i u l items k)
      ⟨g, rfl, ⟨_, g, rfl⟩, call_meets F.slot_list_mul ⟨_, g, rfl⟩ F.entry_list_mul (F.args_list_mul_2 _ _)
        (AutoListH.list___mul___list_int_3 l items k i u (by simp [Builtin.List.listFitsIndex]; omega) (by rw [l1]; omega) (by rw [l1]; unfold Builtin.List.listTooLong; rw [sizeLine_eq]; simp only [decide_eq_true_eq]; omega))
        ⟨g, ?_⟩⟩)
  refine ⟨.push _ _, .list V.new (Heap.get?_push_size _ rfl) ((Rel.push (cx := cx) (q := q) s _).repAll V.ok ?_)⟩
  rw [foldl_flat]
  have key : ∀ m, RepAll W s.heap (List.replicate m items.toList).flatten (List.replicate m xs).flatten := by
    intro m
    induction m with
    | zero => simp; exact .nil
    | succ m ih => rw [List.replicate_succ, List.replicate_succ, List.flatten_cons, List.flatten_cons]; exact r.append ih
  by_cases he : items.isEmpty = true
  · have : items = #[] := by simpa using he
    subst this
    have : xs = [] := by cases xs with
      | nil => rfl
      | cons => simp at l1
    subst this
    simpa using key i.toNat
  · rw [if_neg he]
    simpa using key i.toNat

theorem repAll_ints {W : Addr → Prop} {h : Heap} : ∀ {vs : List Value} {ns : List Int}, RepAll W h vs (ns.map .int) → IntsAre vs ns
  | vs, [], r => by cases r; exact .nil
  | vs, t :: ts, r => by
    cases r with | cons a b =>
    cases a with | int _ k =>
    exact .cons _ _ (repAll_ints b)
theorem op_in_ints {ns : List Int} {i : Int} : Op cx q n (cop .In) [.int i, .list (ns.map .int)] (.bool (ns.any (· == i))) := .mk2 fun A s W a b E hA V rx ry => by
  cases rx with | int _ t =>
  cases ry with | list w g r =>
  exact in_list_ints ⟨_, g, rfl, _, rfl⟩ (repAll_ints r) ⟨.refl _, .bool _⟩
end More
end Mine

namespace Mine
variable {cx : Cx} {q : Bool} {n : Nat} {env : Env} {ρ : Ctxt} {ow : Option (Str × List PV)} {s₀ s : Shared} {W₀ : Addr → Prop} {oa : Option Addr}

theorem ne_of_lo_hi {a b : Addr} {k : Nat} (h1 : k ≤ a) (h2 : b < k) : a ≠ b := fun e => Nat.lt_irrefl _ (Nat.lt_of_lt_of_le (e ▸ h2) h1)
theorem SOK.neP (k : SOK cx q s₀) {a : Addr} (h : s₀.heap.get? a = none) : a ≠ cx.P := by
  rintro rfl
  obtain ⟨ps, e⟩ := k.gi.table
  rw [h] at e; cases e
theorem base_none (k : SOK cx q s₀) {a : Addr} (h : s₀.heap.get? a = none) : cx.h₁.get? a = none := by
  cases e : cx.h₁.get? a with
  | none => rfl
  | some o => have := k.gi.get e (k.neP h); rw [h] at this; cases this
theorem none_of_le {a : Addr} (h : s₀.heap.objs.size ≤ a) : s₀.heap.get? a = none := Heap.get?_none_of_le h
theorem Rel.back (r : Rel cx q s₀ s) (k : SOK cx q s₀) {a : Addr} (h : s.heap.get? a = none) : s₀.heap.get? a = none := by
  cases e : s₀.heap.get? a with
  | none => rfl
  | some o => have := r.keep a o (.inr ((r.ok k).neP h)) e; rw [h] at this; cases this

theorem GI.sameBut {h h' : Heap} (g : GI cx h) {a : Addr} (hs : Heap.SameBut a h h') (ha : cx.h₁.get? a = none) (hP : a ≠ cx.P) : GI cx h' := by
  obtain ⟨g, ps, B, k⟩ := g
  refine ⟨g, ps, B, fun b o e => (hs.2 b ?_).trans (k b o e)⟩
  rintro rfl
  rw [B.same.2 _ hP, ha] at e; cases e

/-- a change at one fresh address -/
theorem Rel.local (r : Rel cx q s₀ s) (k : SOK cx q s₀) {a : Addr} (ha : s₀.heap.get? a = none) {h' : Heap} (hs : Heap.SameBut a s.heap h') (t : Nat) : Rel cx q s₀ { s with heap := h', toks := t } := by
  obtain ⟨hh, tk, gs, rfl⟩ := r.rest
  exact ⟨⟨h', t, gs, rfl⟩, r.gens, fun b o hb e => (hs.2 b (by rintro rfl; rw [ha] at e; cases e)).trans (r.keep b o hb e), fun g => (r.gi g).sameBut hs (base_none k ha) (k.neP ha), r.bare⟩

structure CellsOK (env : Env) (h : Heap) : Prop where
  cell : ∀ nm c, (nm, c) ∈ env.cells → ∃ v, h.IsCell c v
  apart : env.cells.Pairwise fun x y => x.2 ≠ y.2
  above : ∀ nm c, (nm, c) ∈ env.cells → env.locals < c

/-- the state at a statement of a def's frame: s₀ the state at its call, W₀ what its caller may write later, oa the frame's own list -/
structure FS (cx : Cx) (q : Bool) (s₀ : Shared) (W₀ : Addr → Prop) (env : Env) (ρ : Ctxt) (ow : Option (Str × List PV)) (oa : Option Addr) (s : Shared) : Prop where
  ok₀ : SOK cx q s₀
  rel : Rel cx q s₀ s
  prot₀ : ∀ b, W₀ b → ∃ T items n, s₀.heap.get? b = some (seqObj T items n)
  kind : env.scope.kind = .function
  globals : env.globals = mainGlobals
  builtins : env.builtins = builtinsNs
  fresh : s₀.heap.objs.size ≤ env.locals
  ns : ∃ m, s.heap.Ns env.locals m
  cl : CellsOK env s.heap
  vars : ∀ x p, ρ.lookup x = some p → ∃ v, VarIs s.heap env x v ∧ Rep (fun b => W₀ b ∨ oa = some b) s.heap v p
  own : ∀ a, oa = some a → s₀.heap.get? a = none ∧ ∃ x xs, ow = some (x, xs) ∧ VarIs s.heap env x (.ref a) ∧ ListAt (fun b => W₀ b ∨ oa = some b) s.heap a xs
  has : ow.isSome = true → oa.isSome = true

abbrev wof (W₀ : Addr → Prop) (oa : Option Addr) : Addr → Prop := fun b => W₀ b ∨ oa = some b

theorem FS.ok (F : FS cx q s₀ W₀ env ρ ow oa s) : SOK cx q s := F.rel.ok F.ok₀
theorem FS.vs (F : FS cx q s₀ W₀ env ρ ow oa s) : VS cx q (wof W₀ oa) s := by
  refine ⟨F.ok, fun b hb => ?_⟩
  rcases hb with hb | hb
  · obtain ⟨T, items, n, e⟩ := F.prot₀ b hb
    exact ⟨T, items, n, F.rel.get F.ok₀ e (solid_seq _ _ _)⟩
  · obtain ⟨_, x, xs, _, _, items, n, e, _⟩ := F.own b hb
    exact ⟨_, _, _, e⟩
theorem FS.es (F : FS cx q s₀ W₀ env ρ ow oa s) : ES cx q (wof W₀ oa) env ρ ow s := by
  refine ⟨F.vs, F.kind, F.globals, F.builtins, F.vars, fun x xs e => ?_⟩
  obtain ⟨a, ha⟩ := Option.isSome_iff_exists.mp (F.has (by rw [e]; rfl))
  obtain ⟨_, y, ys, e', hv, hl⟩ := F.own a ha
  rw [e] at e'; cases e'
  exact ⟨a, .inr ha, hv, hl⟩
theorem FS.step {s' : Shared} (F : FS cx q s₀ W₀ env ρ ow oa s) (r : Rel cx q s s') : FS cx q s₀ W₀ env ρ ow oa s' :=
  ⟨F.ok₀, F.rel.trans r, F.prot₀, F.kind, F.globals, F.builtins, F.fresh, let ⟨m, h⟩ := F.ns; ⟨m, r.ns F.ok h⟩,
   ⟨fun n c e => let ⟨v, h⟩ := F.cl.cell n c e; ⟨v, r.cell F.ok h⟩, F.cl.apart, F.cl.above⟩,
   fun x p e => let ⟨v, a, b⟩ := F.vars x p e; ⟨v, a.rel r F.ok, r.rep F.ok b⟩,
   fun a e => let ⟨l, x, xs, e', hv, hl⟩ := F.own a e; ⟨l, x, xs, e', hv.rel r F.ok, hl.rel r F.ok⟩, F.has⟩
theorem FS.notW {a : Addr} (F : FS cx q s₀ W₀ env ρ ow oa s) (h : s₀.heap.get? a = none) : ¬ W₀ a := fun hw => by
  obtain ⟨_, _, _, e⟩ := F.prot₀ a hw
  rw [h] at e; cases e
theorem FS.oa_locals (F : FS cx q s₀ W₀ env ρ ow oa s) {b : Addr} (e : oa = some b) : b ≠ env.locals := by
  obtain ⟨hl, x, xs, _, _, items, k, g, _⟩ := F.own b e
  rintro rfl
  obtain ⟨m, o, es, ep, e1, e2, _⟩ := F.ns
  rw [g] at e1; cases e1; cases e2
theorem FS.oa_cells (F : FS cx q s₀ W₀ env ρ ow oa s) {b : Addr} (e : oa = some b) : ∀ nm, (nm, b) ∉ env.cells := fun nm hm => by
  obtain ⟨hl, x, xs, _, _, items, k, g, _⟩ := F.own b e
  obtain ⟨v, o, e1, e2⟩ := F.cl.cell nm b hm
  rw [g] at e1; cases e1; cases e2

def MutOf (env : Env) (oa : Option Addr) (b : Addr) : Prop := b = env.locals ∨ (∃ n, (n, b) ∈ env.cells) ∨ oa = some b
def Kept (cx : Cx) (q : Bool) (env : Env) (oa : Option Addr) (s s' : Shared) : Prop :=
  ∀ b o, ¬ MutOf env oa b → (q = true ∨ b ≠ cx.P) → s.heap.get? b = some o → s'.heap.get? b = some o
/-- the own list is the one that was, or new -/
def OwnStep (oa oa' : Option Addr) (s : Shared) : Prop := ∀ a, oa' = some a → oa = some a ∨ s.heap.get? a = none
theorem Kept.refl : Kept cx q env oa s s := fun _ _ _ _ e => e
theorem Kept.of_rel {s' : Shared} (r : Rel cx q s s') : Kept cx q env oa s s' := fun b o _ h e => r.keep b o h e
theorem Kept.trans {oa' : Option Addr} {s' s'' : Shared} (x : Kept cx q env oa s s') (st : OwnStep oa oa' s) (y : Kept cx q env oa' s' s'') : Kept cx q env oa s s'' := fun b o hm h e => by
  refine y b o (fun hm' => ?_) h (x b o hm h e)
  rcases hm' with h1 | h1 | h1
  · exact hm (.inl h1)
  · exact hm (.inr (.inl h1))
  · rcases st b h1 with h2 | h2
    · exact hm (.inr (.inr h2))
    · rw [h2] at e; cases e
theorem OwnStep.refl : OwnStep oa oa s := fun _ e => .inl e
theorem OwnStep.none : OwnStep oa none s := fun _ e => by cases e
theorem OwnStep.trans {s₀' : Shared} {W₀' : Addr → Prop} {ρ' : Ctxt} {ow' : Option (Str × List PV)} {oa' oa'' : Option Addr} {s' s'' : Shared} (x : OwnStep oa oa' s) (k : Kept cx q env oa s s') (y : OwnStep oa' oa'' s') (F : FS cx q s₀' W₀' env ρ' ow' oa'' s'') : OwnStep oa oa'' s := fun a e => by
  rcases y a e with h | h
  · exact x a h
  · by_cases ho : oa = some a
    · exact .inl ho
    · right
      cases e' : s.heap.get? a with
      | none => rfl
      | some o =>
        have := k a o (fun m => by
          rcases m with m | ⟨nm, m⟩ | m
          · exact F.oa_locals e m
          · exact F.oa_cells e nm m
          · exact ho m) (.inr (F.ok₀.neP (F.own a e).1)) e'
        rw [h] at this; cases this

/-- what a store at one address of the frame leaves -/
theorem Kept.at {a : Addr} (ha : MutOf env oa a) {h' : Heap} (hs : Heap.SameBut a s.heap h') (t : Nat) : Kept cx q env oa s { s with heap := h', toks := t } := fun b o hm _ e => by
  refine (hs.2 b ?_).trans e
  rintro rfl
  exact hm ha

theorem keepSeq_sameBut {W : Addr → Prop} {h h' : Heap} {a : Addr} (hs : Heap.SameBut a h h') (ha : ∀ o, h.get? a = some o → ¬ IsSeq o) : KeepSeq W h h' := fun b o _ e q => by
  refine (hs.2 b ?_).trans e
  rintro rfl
  exact ha _ e q

theorem lookup_cons_eq {x : Str} {p : PV} {ρ : Ctxt} : List.lookup x ((x, p) :: ρ) = some p := by simp [List.lookup]
theorem lookup_cons_ne {x y : Str} {p : PV} {ρ : Ctxt} (h : x ≠ y) : List.lookup x ((y, p) :: ρ) = List.lookup x ρ := by
  have : (x == y) = false := by simpa using h
  simp [List.lookup, this]

def storable (env : Env) (x : Str) : Prop := env.kindOf x = some .local ∨ (env.kindOf x = some .cell ∧ (env.cells.lookup x).isSome = true)

theorem VarIs.upd_local {h h' : Heap} {x y : Str} {v u : Value} {m : Str → Option Value} (hxy : y ≠ x) (hm : h.Ns env.locals m) (hm' : h'.Ns env.locals (fun z => if z = x then some v else m z)) (hs : Heap.SameBut env.locals h h')
    (hc : ∀ nm c, (nm, c) ∈ env.cells → env.locals < c) (e : VarIs h env y u) : VarIs h' env y u := by
  rcases e with ⟨a, m₂, b, e⟩ | ⟨a, c, b, e⟩
  · refine .inl ⟨a, _, hm', ?_⟩
    show (if y = x then _ else m y) = _
    rw [if_neg hxy, ← e]; exact hm.agree b y
  · exact .inr ⟨a, c, b, e.sameBut hs (Nat.ne_of_gt (hc y c (mem_of_lookup b)))⟩

theorem store_var' {M : Model} {A : Around} {E : Value → Shared → Prop} {x : Str} {v : Value} {p : PV} (F : FS cx q s₀ W₀ env ρ ow oa s) (hr : Rep (wof W₀ oa) s.heap v p) (hx : storable env x) (hox : ∀ y xs, ow = some (y, xs) → y ≠ x) :
    wpAny M A (storeName env x v) (fun _ s' => (FS cx q s₀ W₀ env ((x, p) :: ρ) ow oa s' ∧ Kept cx q env oa s s') ∧ (∀ y u, y ≠ x → VarIs s.heap env y u → VarIs s'.heap env y u) ∧ (∀ W, KeepSeq W s.heap s'.heap) ∧ VarIs s'.heap env x v) E s := by
  obtain ⟨m, hm⟩ := id F.ns
  rcases hx with hl | ⟨hl, hc⟩
  · refine wpAny_storeName_local hl hm (fun h' hn' hs' => ?_) (by rw [F.kind]; rfl)
    have hseq : ∀ o, s.heap.get? env.locals = some o → ¬ IsSeq o := fun o e q => by
      obtain ⟨o, es, ep, e1, e2, _⟩ := hm
      obtain ⟨_, _, d⟩ := q
      rw [e1] at e; cases e
      rw [e2] at d; cases d
    have ks : ∀ W, KeepSeq W s.heap h' := fun W => keepSeq_sameBut hs' hseq
    refine ⟨⟨⟨F.ok₀, F.rel.local F.ok₀ (none_of_le F.fresh) hs' _, F.prot₀, F.kind, F.globals, F.builtins, F.fresh, ⟨_, hn'⟩,
      ⟨fun nm c e => let ⟨u, h⟩ := F.cl.cell nm c e; ⟨u, h.sameBut hs' (Nat.ne_of_gt (F.cl.above nm c e))⟩, F.cl.apart, F.cl.above⟩, fun y p' e => ?_, fun a e => ?_, F.has⟩, Kept.at (.inl rfl) hs' _⟩, fun y u hy hu => hu.upd_local hy hm hn' hs' F.cl.above, ks, .inl ⟨hl, _, hn', by simp⟩⟩
    · by_cases hy : y = x
      · subst hy
        rw [lookup_cons_eq] at e; cases e
        exact ⟨v, .inl ⟨hl, _, hn', by simp⟩, hr.mono (ks _)⟩
      · rw [lookup_cons_ne hy] at e
        obtain ⟨u, hu, ru⟩ := F.vars y p' e
        exact ⟨u, hu.upd_local hy hm hn' hs' F.cl.above, ru.mono (ks _)⟩
    · obtain ⟨l, y, ys, e', hv, items, k, g, r⟩ := F.own a e
      exact ⟨l, y, ys, e', hv.upd_local (hox y ys e') hm hn' hs' F.cl.above, items, k, (hs'.2 a (F.oa_locals e)).trans g, r.mono (ks _)⟩
  · obtain ⟨c, hc⟩ := Option.isSome_iff_exists.mp hc
    have hcm := mem_of_lookup hc
    obtain ⟨u₀, hu₀⟩ := F.cl.cell x c hcm
    have hLc := F.cl.above x c hcm
    refine wpAny_storeName_cell F.kind hl hc hu₀ fun h' hv' hs' => ?_
    have hfc : s₀.heap.objs.size ≤ c := Nat.le_trans F.fresh (Nat.le_of_lt hLc)
    have hseq : ∀ o, s.heap.get? c = some o → ¬ IsSeq o := fun o e q => by
      obtain ⟨o, e1, e2⟩ := hu₀
      obtain ⟨_, _, d⟩ := q
      rw [e1] at e; cases e
      rw [e2] at d; cases d
    have ks : ∀ W, KeepSeq W s.heap h' := fun W => keepSeq_sameBut hs' hseq
    have upd : ∀ y u, y ≠ x → VarIs s.heap env y u → VarIs h' env y u := fun y u hy e => by
      rcases e with ⟨a, m₂, b, e⟩ | ⟨a, c', b, e⟩
      · exact .inl ⟨a, m₂, b.sameBut hs' (Nat.ne_of_lt hLc), e⟩
      · refine .inr ⟨a, c', b, e.sameBut hs' fun z => hy ?_⟩
        subst z
        exact name_of_addr F.cl.apart (mem_of_lookup b) hcm
    refine ⟨⟨⟨F.ok₀, (F.rel.local F.ok₀ (none_of_le hfc) hs' s.toks : _), F.prot₀, F.kind, F.globals, F.builtins, F.fresh, ⟨m, hm.sameBut hs' (Nat.ne_of_lt hLc)⟩,
      ⟨fun nm c' e => ?_, F.cl.apart, F.cl.above⟩, fun y p' e => ?_, fun a e => ?_, F.has⟩, (Kept.at (.inr (.inl ⟨x, hcm⟩)) hs' s.toks : _)⟩, upd, ks, .inr ⟨.inl hl, c, hc, hv'⟩⟩
    · by_cases hcc : c' = c
      · subst hcc; exact ⟨_, hv'⟩
      · obtain ⟨u, h⟩ := F.cl.cell nm c' e
        exact ⟨u, h.sameBut hs' hcc⟩
    · by_cases hy : y = x
      · subst hy
        rw [lookup_cons_eq] at e; cases e
        exact ⟨v, .inr ⟨.inl hl, c, hc, hv'⟩, hr.mono (ks _)⟩
      · rw [lookup_cons_ne hy] at e
        obtain ⟨u, hu, ru⟩ := F.vars y p' e
        exact ⟨u, upd y u hy hu, ru.mono (ks _)⟩
    · obtain ⟨l, y, ys, e', hv, items, k, g, r⟩ := F.own a e
      refine ⟨l, y, ys, e', upd y _ (hox y ys e') hv, items, k, (hs'.2 a ?_).trans g, r.mono (ks _)⟩
      rintro rfl
      exact F.oa_cells e x hcm

theorem store_var {M : Model} {A : Around} {E : Value → Shared → Prop} {x : Str} {v : Value} {p : PV} (F : FS cx q s₀ W₀ env ρ ow oa s) (hr : Rep (wof W₀ oa) s.heap v p) (hx : storable env x) (hox : ∀ y xs, ow = some (y, xs) → y ≠ x) :
    wpAny M A (storeName env x v) (fun _ s' => FS cx q s₀ W₀ env ((x, p) :: ρ) ow oa s' ∧ Kept cx q env oa s s') E s :=
  wpAny_mono (store_var' F hr hx hox) (fun _ _ h => h.1) fun _ _ e => e

/-- forgetting what some names hold -/
theorem FS.weak {ρ' : Ctxt} (F : FS cx q s₀ W₀ env ρ ow oa s) (h : ∀ x p, ρ'.lookup x = some p → ρ.lookup x = some p) : FS cx q s₀ W₀ env ρ' ow oa s :=
  ⟨F.ok₀, F.rel, F.prot₀, F.kind, F.globals, F.builtins, F.fresh, F.ns, F.cl, fun x p e => F.vars x p (h x p e), F.own, F.has⟩

/-- the own list is written no more -/
theorem FS.unown {x : Str} {xs : List PV} (F : FS cx q s₀ W₀ env ρ (some (x, xs)) oa s) : FS cx q s₀ W₀ env ((x, .list xs) :: ρ) none none s := by
  have wk : ∀ b o, s.heap.get? b = some o → ¬ wof W₀ oa b → ¬ wof W₀ none b := fun b o _ h h' => h'.elim (fun z => h (.inl z)) fun z => by cases z
  refine ⟨F.ok₀, F.rel, F.prot₀, F.kind, F.globals, F.builtins, F.fresh, F.ns, F.cl, fun y p e => ?_, fun a e => (nomatch e), fun e => (nomatch e)⟩
  by_cases hy : y = x
  · subst hy
    rw [lookup_cons_eq] at e; cases e
    obtain ⟨a, ha⟩ := Option.isSome_iff_exists.mp (F.has rfl)
    obtain ⟨l, y, ys, e', hv, items, k, g, r⟩ := F.own a ha
    cases e'
    exact ⟨_, hv, .list (fun h => h.elim (F.notW l) fun z => by cases z) g (r.weak wk)⟩
  · rw [lookup_cons_ne hy] at e
    obtain ⟨u, hu, ru⟩ := F.vars y p e
    exact ⟨u, hu, ru.weak wk⟩

inductive Out where
  | next (ρ : Ctxt) (ow : Option (Str × List PV))
  | ret (p : PV)

def RunPost (cx : Cx) (q : Bool) (s₀ : Shared) (W₀ : Addr → Prop) (env : Env) (oa : Option Addr) (s : Shared) (Φ : Out → Prop) (fl : Flow) (s' : Shared) : Prop := match fl with
  | .next => ∃ ρ' ow' oa', Φ (.next ρ' ow') ∧ FS cx q s₀ W₀ env ρ' ow' oa' s' ∧ Kept cx q env oa s s' ∧ OwnStep oa oa' s
  | .ret v => ∃ p, Φ (.ret p) ∧ Rel cx q s₀ s' ∧ Rep W₀ s'.heap v p ∧ Kept cx q env oa s s'
  | _ => False

def Runs (cx : Cx) (q : Bool) (n : Nat) (env : Env) (ρ : Ctxt) (ow : Option (Str × List PV)) (st : List Stmt) (Φ : Out → Prop) : Prop :=
  ∀ (A : Around) (s s₀ : Shared) (W₀ : Addr → Prop) (oa : Option Addr) (E : Value → Shared → Prop), AOK n A → FS cx q s₀ W₀ env ρ ow oa s →
    wpAny (model cx.prog cx.w) A (execs st env) (RunPost cx q s₀ W₀ env oa s Φ) E s
def Run1 (cx : Cx) (q : Bool) (n : Nat) (env : Env) (ρ : Ctxt) (ow : Option (Str × List PV)) (st : Stmt) (Φ : Out → Prop) : Prop :=
  ∀ (A : Around) (s s₀ : Shared) (W₀ : Addr → Prop) (oa : Option Addr) (E : Value → Shared → Prop), AOK n A → FS cx q s₀ W₀ env ρ ow oa s →
    wpAny (model cx.prog cx.w) A (exec st env) (RunPost cx q s₀ W₀ env oa s Φ) E s

theorem RunPost.mono {Φ Ψ : Out → Prop} (h : ∀ o, Φ o → Ψ o) {fl : Flow} {s' : Shared} (x : RunPost cx q s₀ W₀ env oa s Φ fl s') : RunPost cx q s₀ W₀ env oa s Ψ fl s' := by
  cases fl with
  | next => obtain ⟨ρ', ow', oa', a, b⟩ := x; exact ⟨ρ', ow', oa', h _ a, b⟩
  | ret v => obtain ⟨p, a, b⟩ := x; exact ⟨p, h _ a, b⟩
  | brk => exact x
  | cont => exact x
theorem Runs.mono {st : List Stmt} {Φ Ψ : Out → Prop} (x : Runs cx q n env ρ ow st Φ) (h : ∀ o, Φ o → Ψ o) : Runs cx q n env ρ ow st Ψ := fun A s s₀ W₀ oa E hA F =>
  wpAny_mono (x A s s₀ W₀ oa E hA F) (fun _ _ r => r.mono h) fun _ _ e => e

theorem Runs_nil {Φ : Out → Prop} (h : Φ (.next ρ ow)) : Runs cx q n env ρ ow [] Φ := fun A s s₀ W₀ oa E hA F =>
  wpAny_execs_nil ⟨ρ, ow, oa, h, F, .refl, .refl⟩

/-- before any statement: forget names -/
theorem Runs_weak {ρ' : Ctxt} {st : List Stmt} {Φ : Out → Prop} (h : ∀ x p, ρ'.lookup x = some p → ρ.lookup x = some p) (k : Runs cx q n env ρ' ow st Φ) : Runs cx q n env ρ ow st Φ := fun A s s₀ W₀ oa E hA F =>
  k A s s₀ W₀ oa E hA (F.weak h)
theorem Runs_unown {x : Str} {xs : List PV} {st : List Stmt} {Φ : Out → Prop} (k : Runs cx q n env ((x, .list xs) :: ρ) none st Φ) : Runs cx q n env ρ (some (x, xs)) st Φ := fun A s s₀ W₀ oa E hA F => by
  refine wpAny_mono (k A s s₀ W₀ none E hA F.unown) (fun fl s' r => ?_) fun _ _ e => e
  have kk : ∀ {s'}, Kept cx q env none s s' → Kept cx q env oa s s' := fun h b o hm => h b o fun m => m.elim (fun z => hm (.inl z)) fun m => m.elim (fun z => hm (.inr (.inl z))) fun z => by cases z
  cases fl with
  | next => obtain ⟨ρ', ow', oa', a, b, c, d⟩ := r; exact ⟨ρ', ow', oa', a, b, kk c, fun z e => (d z e).elim (fun y => by cases y) .inr⟩
  | ret v => obtain ⟨p, a, b, c, d⟩ := r; exact ⟨p, a, b, c, kk d⟩
  | brk => exact r
  | cont => exact r

theorem Runs_cons {st : Stmt} {rest : List Stmt} {Φ : Out → Prop} (h : Run1 cx q n env ρ ow st (fun o => match o with | .next ρ' ow' => Runs cx q n env ρ' ow' rest Φ | .ret p => Φ (.ret p))) :
    Runs cx q n env ρ ow (st :: rest) Φ := fun A s s₀ W₀ oa E hA F => by
  refine wpAny_execs_cons (wpAny_mono (h A s s₀ W₀ oa E hA F) (fun fl s' r => ?_) fun _ _ e => e)
  cases fl with
  | next =>
    obtain ⟨ρ', ow', oa', a, F', c, d⟩ := r
    refine wpAny_mono (a A s' s₀ W₀ oa' E hA F') (fun fl s'' r' => ?_) fun _ _ e => e
    cases fl with
    | next => obtain ⟨ρ'', ow'', oa'', a', F'', c', d'⟩ := r'; exact ⟨ρ'', ow'', oa'', a', F'', c.trans d c', d.trans c d' F''⟩
    | ret v => obtain ⟨p, a', b', c', d'⟩ := r'; exact ⟨p, a', b', c', c.trans d d'⟩
    | brk => exact r'
    | cont => exact r'
  | ret v => exact r
  | brk => exact r
  | cont => exact r

theorem Run1_assign {x : Str} {px pos : Pos} {e : Expr} {p : PV} {Φ : Out → Prop} (h : Ev cx q n env ρ ow e p) (hx : storable env x) (hΦ : Φ (.next ((x, p) :: ρ) ow)) (hox : ∀ y xs, ow = some (y, xs) → y ≠ x := by intro _ _ h; cases h)
    (hs : swapsWith e (some (.Name x px)) pos.line env = pure false := by rfl) : Run1 cx q n env ρ ow (.Assign [.Name x px] e pos) Φ := fun A s s₀ W₀ oa E hA F => by
  refine wpAny_Assign_Name (wpAny_mono (h A s _ E hA F.es) (fun v s₁ h₁ => ?_) fun _ _ e => e) hs
  refine wpAny_mono (store_var (F.step h₁.1) h₁.2 hx hox) (fun _ s₂ h₂ => ?_) fun _ _ e => e
  exact ⟨_, _, oa, hΦ, h₂.1, (Kept.of_rel h₁.1).trans .refl h₂.2, .refl⟩

theorem Run1_return {e : Expr} {pos : Pos} {p : PV} {Φ : Out → Prop} (h : Ev cx q n env ρ ow e p) (hΦ : Φ (.ret p)) : Run1 cx q n env ρ ow (.Return (some e) pos) Φ := fun A s s₀ W₀ oa E hA F => by
  refine wpAny_Return_some (wpAny_mono (h A s _ E hA F.es) (fun v s₁ h₁ => ?_) fun _ _ e => e)
  exact ⟨p, hΦ, F.rel.trans h₁.1, h₁.2.weak fun _ _ _ z w => z (.inl w), .of_rel h₁.1⟩

theorem Run1_if {test : Expr} {body orelse : List Stmt} {pos : Pos} {b : Bool} {Φ : Out → Prop} (h : EvT cx q n env ρ ow test b) (ht : b = true → Runs cx q n env ρ ow body Φ) (hf : b = false → Runs cx q n env ρ ow orelse Φ) :
    Run1 cx q n env ρ ow (.If test body orelse pos) Φ := fun A s s₀ W₀ oa E hA F => by
  refine wpAny_If (wpAny_mono (h A s _ E hA F.es) (fun c s₁ h₁ => ?_) fun _ _ e => e)
  obtain ⟨r, rfl⟩ := h₁
  have key : ∀ {st : List Stmt}, Runs cx q n env ρ ow st Φ → wpAny (model cx.prog cx.w) A (execs st env) (RunPost cx q s₀ W₀ env oa s Φ) E s₁ := fun k => by
    refine wpAny_mono (k A s₁ s₀ W₀ oa E hA (F.step r)) (fun fl s' r' => ?_) fun _ _ e => e
    cases fl with
    | next => obtain ⟨ρ'', ow'', oa'', a', F'', c', d'⟩ := r'; exact ⟨ρ'', ow'', oa'', a', F'', (Kept.of_rel r).trans .refl c', OwnStep.trans .refl (Kept.of_rel r) d' F''⟩
    | ret v => obtain ⟨p, a', b', c', d'⟩ := r'; exact ⟨p, a', b', c', (Kept.of_rel r).trans .refl d'⟩
    | brk => exact r'
    | cont => exact r'
  cases c with
  | true => exact key (ht rfl)
  | false => exact key (hf rfl)

theorem Run1_assert {test : Expr} {msg : Option Expr} {pos : Pos} {Φ : Out → Prop} (h : EvT cx q n env ρ ow test true) (hΦ : Φ (.next ρ ow)) : Run1 cx q n env ρ ow (.Assert test msg pos) Φ := fun A s s₀ W₀ oa E hA F => by
  refine wpAny_Assert_holds (wpAny_mono (h A s _ E hA F.es) (fun c s₁ h₁ => ?_) fun _ _ e => e)
  exact ⟨h₁.2, ρ, ow, oa, hΦ, F.step h₁.1, .of_rel h₁.1, .refl⟩

end Mine

namespace Mine
variable {cx : Cx} {q : Bool} {n : Nat} {env : Env} {ρ : Ctxt} {ow : Option (Str × List PV)} {s₀ s : Shared} {W₀ : Addr → Prop} {oa : Option Addr}

/-- a value that is p in any heap -/
def SRep (v : Value) (p : PV) : Prop := p.scalar = true ∧ ∀ W h, Rep W h v p
theorem Rep.srep {W : Addr → Prop} {h : Heap} {v : Value} {p : PV} (r : Rep W h v p) (e : p.scalar = true) : SRep v p := ⟨e, fun _ _ => r.scalar e⟩

structure IterAt (cx : Cx) (W : Addr → Prop) (s s₂ : Shared) (it : Value) (I : Addr) (fp wr : List Addr) (P : Nat → Value → Prop) (St : Nat → Heap → Prop) (ps : List PV) : Prop where
  ref : it = .ref I
  walks : ∀ A' : Around, A'.handled = none → Walks cx.prog cx.w A' I fp wr ps.length P St
  item : ∀ i v, P i v → ∃ p, ps[i]? = some p ∧ SRep v p
  start : St 0 s₂.heap
  fpd : ∀ b ∈ fp, s.heap.get? b = none ∨ (¬ W b ∧ ∃ T items n, s.heap.get? b = some (seqObj T items n))
  wrn : ∀ b ∈ wr, s.heap.get? b = none
  ex : ∀ i h, St i h → (∀ b ∈ fp, ∃ o, h.get? b = some o) ∧ (∀ b ∈ wr, b ∈ fp ∧ ∀ o, h.get? b = some o → ¬ IsSeq o)

/-- what a for or a comprehension goes over -/
def EvIter (cx : Cx) (q : Bool) (n : Nat) (env : Env) (ρ : Ctxt) (ow : Option (Str × List PV)) (iter : Expr) (ps : List PV) : Prop :=
  ∀ (A : Around) (s : Shared) (W : Addr → Prop) (E : Value → Shared → Prop), AOK n A → ES cx q W env ρ ow s →
    wpAny (model cx.prog cx.w) A (eval iter env) (fun xv s₁ => wpAny (model cx.prog cx.w) A (pyIter xv) (fun it s₂ => Rel cx q s s₂ ∧ ∃ I fp wr P St, IterAt cx W s s₂ it I fp wr P St ps) E s₁) E s

theorem EvIter_list {iter : Expr} {ps : List PV} (h : Ev cx q n env ρ ow iter (.list ps)) (hs : ∀ p ∈ ps, p.scalar = true) : EvIter cx q n env ρ ow iter ps := fun A s W E hA S => by
  refine wpAny_mono (h A s W E hA S) (fun v s₁ h₁ => ?_) fun _ _ e => e
  obtain ⟨r1, k⟩ := h₁
  cases k with | list w g r =>
  rename_i ax items k
  have l1 := r.length
  simp only [Array.length_toList] at l1
  have S1 := S.rel r1
  have hne : ax ≠ s₁.heap.objs.size := Nat.ne_of_lt (Heap.lt_size g)
  have hI : s.heap.get? s₁.heap.objs.size = none := r1.back S.vs.ok (none_of_le (Nat.le_refl _))
  have X : IterAt cx W s { s₁ with heap := s₁.heap.push { cls := .type "list_iterator", data := .fields #[.ref ax, .int 0 0] } } (.ref s₁.heap.objs.size) s₁.heap.objs.size [s₁.heap.objs.size, ax] [s₁.heap.objs.size]
      (fun i v => items[i]? = some v) (fun i h => h.IsListIter s₁.heap.objs.size ax i ∧ h.IsList ax items) ps := by
    refine ⟨rfl, fun A' hA' => l1 ▸ Walks.list hA' s₁.heap.objs.size ax hne items, fun i v hv => ?_, ⟨⟨_, Heap.get?_push_size _ rfl, rfl, rfl⟩, Heap.IsList.push (h := s₁.heap) ⟨_, g, rfl, _, rfl⟩ _⟩, fun b hb => ?_, fun b hb => ?_, fun i h st => ⟨fun b hb => ?_, fun b hb => ?_⟩⟩
    · obtain ⟨p, hp, rp⟩ := r.get' (i := i) (v := v) (by simpa using hv)
      exact ⟨p, hp, rp.srep (hs p (List.mem_of_getElem? hp))⟩
    · simp only [List.mem_cons, List.not_mem_nil, or_false] at hb
      rcases hb with rfl | rfl
      · exact .inl hI
      · cases e : s.heap.get? b with
        | none => exact .inl rfl
        | some o =>
          refine .inr ⟨w, "list", items, k, ?_⟩
          by_cases hP : b = cx.P
          · obtain ⟨ps', hp⟩ := S1.vs.ok.gi.table
            rw [← hP, g] at hp; cases hp
          · have := r1.keep b o (.inr hP) e
            rw [g] at this; exact this.symm
    · simp only [List.mem_cons, List.not_mem_nil, or_false] at hb
      rw [hb]; exact hI
    · simp only [List.mem_cons, List.not_mem_nil, or_false] at hb
      rcases hb with rfl | rfl
      · obtain ⟨o, e, _⟩ := st.1; exact ⟨o, e⟩
      · obtain ⟨o, e, _⟩ := st.2; exact ⟨o, e⟩
    · simp only [List.mem_cons, List.not_mem_nil, or_false] at hb
      subst hb
      refine ⟨by simp, fun o2 e qq => ?_⟩
      obtain ⟨o, e', _, d⟩ := st.1
      obtain ⟨_, _, d'⟩ := qq
      rw [e] at e'; cases e'
      rw [d] at d'; cases d'
  exact wpAny_pyIter_list ⟨_, g, rfl, _, rfl⟩ ⟨r1.trans (.push _ _), _, _, _, _, _, X⟩

theorem EvIter_range {x : Str} {xp pos : Pos} {e : Expr} {k : Int} {m : Nat} (C : CxOK cx) (hx : env.kindOf x = some .globalImplicit) (hm : cx.mg x = none) (hb : bootBuiltins x = some (.type "range"))
    (ha : Ev cx q n env ρ ow e (.int k)) (hk : k = m) (hsz : m ≤ 100000) (he : ∀ env, starEach [e] env = [(false, eval e env)] := by intro _; rfl)
    (hd : (x == ("__debug__" : Str)) = false := by rfl) (hn : x ≠ "__name__" := by decide) : EvIter cx q n env ρ ow (.Call (.Name x xp) [e] [] pos) ((List.range m).map fun i => .int (i : Nat)) := fun A s W E hA S => by
  rw [eval_Call_name]
  refine wpAny_bind (eval_builtin C S hx hm hb ?_ hd hn)
  refine PySem.Pv.callWith_type1 (rest := []) ?_ (he env)
  refine wpAny_items_cons (wpAny_mono (ha A s W E hA S) (fun v s₁ h₁ => wpAny_items_nil ?_) fun _ _ e => e) (he env)
  obtain ⟨r1, k1⟩ := h₁
  cases k1 with | int _ tt =>
  have S1 := S.rel r1
  refine call_range_1 ?_
  have r2 : Rel cx q s₁ { s₁ with heap := s₁.heap.push { cls := .type "range", data := .fields #[.int 0 s₁.toks, .int k tt, .int 1 (s₁.toks + 1)] }, toks := s₁.toks + 1 + 1 } := (Rel.push s₁ _).tok _
  generalize hob : ({ cls := .type "range", data := .fields #[.int 0 s₁.toks, .int k tt, .int 1 (s₁.toks + 1)] } : Obj) = ob at r2 ⊢
  have hI : s.heap.get? (s₁.heap.push ob).objs.size = none := (r1.trans r2).back S.vs.ok (none_of_le (Nat.le_refl _))
  generalize hit : ({ cls := .type "range_iterator", data := .fields #[rawInt 0, rawInt (Builtin.Range.rangeSize 0 k 1), rawInt 1] } : Obj) = obi
  have X : IterAt cx W s { s₁ with heap := (s₁.heap.push ob).push obi, toks := s₁.toks + 1 + 1 } (.ref (s₁.heap.push ob).objs.size) (s₁.heap.push ob).objs.size [(s₁.heap.push ob).objs.size] [(s₁.heap.push ob).objs.size]
      (fun i v => i < m ∧ ∃ t, v = .int (0 + i * 1) t) (fun i h => IsRangeIter h (s₁.heap.push ob).objs.size (0 + (i : Nat) * 1) ((m : Int) - (i : Nat)) 1) ((List.range m).map fun i => .int (i : Nat)) := by
    refine ⟨rfl, fun A' hA' => ?_, fun i v hv => ?_, ?_, fun b hb => ?_, fun b hb => ?_, fun i h st => ⟨fun b hb => ?_, fun b hb => ?_⟩⟩
    · have W1 := Walks.range (prog := cx.prog) (w := cx.w) hA' (s₁.heap.push ob).objs.size 0 1 m
      simp only [List.length_map, List.length_range]
      exact ⟨W1.sub, W1.frame, fun i s Q E hi st hQ => W1.item i s Q E hi st fun v h' tk hv => hQ v h' tk ⟨hi, hv⟩, W1.done, W1.self⟩
    · obtain ⟨hi, t, rfl⟩ := hv
      refine ⟨.int i, by simp [hi], rfl, fun W h => ?_⟩
      have : (0 + (i : Int) * 1) = i := by omega
      rw [this]; exact .int _ _
    · have : Builtin.Range.rangeSize 0 k 1 = (m : Int) - (0 : Nat) := by rw [rangeSize_one]; split <;> omega
      show (Heap.push _ _).get? _ = _
      rw [Heap.get?_push_size _ (by rw [← hit]; rfl), ← hit, this]; rfl
    all_goals simp only [List.mem_cons, List.not_mem_nil, or_false] at hb
    · exact .inl (by rw [hb]; exact hI)
    · rw [hb]; exact hI
    · rw [hb]; exact ⟨_, st⟩
    · rw [hb]
      refine ⟨by simp, fun o2 e qq => ?_⟩
      obtain ⟨_, _, d'⟩ := qq
      rw [show h.get? _ = _ from st] at e
      cases e
      cases d'
  have hr : IsRange (s₁.heap.push ob) s₁.heap.objs.size 0 k 1 s₁.toks tt (s₁.toks + 1) := by rw [← hob]; exact IsRange.new ..
  refine wpAny_pyIter_range (s := { s₁ with heap := s₁.heap.push ob, toks := s₁.toks + 1 + 1 }) hr (small_one (by omega) (by omega) (by omega) (by omega)) ?_
  rw [hit]
  exact ⟨(r1.trans r2).trans (.push _ _), _, _, _, _, _, X⟩

theorem EvIter_str {iter : Expr} {x : Str} (h : Ev cx q n env ρ ow iter (.str x)) : EvIter cx q n env ρ ow iter (x.cps.toList.map fun c => .str ⟨#[c]⟩) := fun A s W E hA S => by
  refine wpAny_mono (h A s W E hA S) (fun v s₁ h₁ => ?_) fun _ _ e => e
  obtain ⟨r1, k⟩ := h₁
  cases k with | str _ t =>
  have hI : s.heap.get? s₁.heap.objs.size = none := r1.back S.vs.ok (none_of_le (Nat.le_refl _))
  have key : ∀ (T : String) (ob : Obj), (s₁.heap.push ob).IsStrIter s₁.heap.objs.size T x t 0 → (∀ A' : Around, A'.handled = none → Walks cx.prog cx.w A' s₁.heap.objs.size [s₁.heap.objs.size] [s₁.heap.objs.size] x.cps.size (SignAt x) (fun i h => h.IsStrIter s₁.heap.objs.size T x t i)) →
      IterAt cx W s { s₁ with heap := s₁.heap.push ob } (.ref s₁.heap.objs.size) s₁.heap.objs.size [s₁.heap.objs.size] [s₁.heap.objs.size] (SignAt x) (fun i h => h.IsStrIter s₁.heap.objs.size T x t i) (x.cps.toList.map fun c => .str ⟨#[c]⟩) := by
    intro T ob h0 hw
    refine ⟨rfl, fun A' hA' => by simpa using hw A' hA', fun i v hv => ?_, h0, fun b hb => ?_, fun b hb => ?_, fun i h st => ⟨fun b hb => ?_, fun b hb => ?_⟩⟩
    · obtain ⟨c, u, hc, rfl⟩ := hv
      exact ⟨.str ⟨#[c]⟩, by simp [hc], rfl, fun _ _ => .str _ _⟩
    all_goals simp only [List.mem_cons, List.not_mem_nil, or_false] at hb
    · exact .inl (by rw [hb]; exact hI)
    · rw [hb]; exact hI
    · obtain ⟨o, e, _⟩ := st; rw [hb]; exact ⟨o, e⟩
    · obtain ⟨o, e, _, d⟩ := st
      rw [hb]
      refine ⟨by simp, fun o2 e' qq => ?_⟩
      obtain ⟨_, _, d'⟩ := qq
      rw [e] at e'; cases e'
      rw [d] at d'; cases d'
  cases ha : x.cps.all (· < 128)
  · exact wpAny_pyIter_wide ha ⟨r1.trans (.push _ _), _, _, _, _, _, key "str_iterator" _ ⟨_, Heap.get?_push_size _ rfl, rfl, rfl⟩ fun A' hA' => Walks.strWide hA' s₁.heap.objs.size x t⟩
  · exact wpAny_pyIter_ascii ha ⟨r1.trans (.push _ _), _, _, _, _, _, key "str_ascii_iterator" _ ⟨_, Heap.get?_push_size _ rfl, rfl, rfl⟩ fun A' hA' => Walks.strAscii hA' s₁.heap.objs.size x t⟩

/-- a change at new addresses alone, behind a Rel -/
theorem Rel.but {s₂ : Shared} (r : Rel cx q s s₂) (k : SOK cx q s) {wr : List Addr} (hw : ∀ b ∈ wr, s.heap.get? b = none) {h' : Heap} {tk : Nat} (hk : ∀ b o, b ∉ wr → s₂.heap.get? b = some o → h'.get? b = some o) :
    Rel cx q s { s₂ with heap := h', toks := tk } := by
  obtain ⟨h₂, t₂, gs, rfl⟩ := r.rest
  refine ⟨⟨h', tk, gs, rfl⟩, r.gens, fun b o hb e => hk b o (fun z => ?_) (r.keep b o hb e), fun g => ?_, r.bare⟩
  · rw [hw b z] at e; cases e
  · obtain ⟨g', ps, B, kk⟩ := r.gi g
    refine ⟨g', ps, B, fun b o e => hk b o (fun z => ?_) (kk b o e)⟩
    by_cases hP : b = cx.P
    · exact k.neP (hw b z) hP
    · have := base_none k (hw b z)
      rw [← B.same.2 b hP, e] at this; cases this

/-- the frame's facts after a change at addresses that are none of the frame's -/
theorem FS.but {wr : List Addr} (F : FS cx q s₀ W₀ env ρ ow oa s) (hw : ∀ b ∈ wr, s₀.heap.get? b = none) (hn : ∀ b ∈ wr, ¬ MutOf env oa b) (hs : ∀ b ∈ wr, ∀ o, s.heap.get? b = some o → ¬ IsSeq o) {h' : Heap} {tk : Nat}
    (hk : ∀ b o, b ∉ wr → s.heap.get? b = some o → h'.get? b = some o) : FS cx q s₀ W₀ env ρ ow oa { s with heap := h', toks := tk } := by
  have k1 : ∀ {m}, s.heap.Ns env.locals m → h'.Ns env.locals m := fun h => h.at' fun o e => hk _ o (fun z => hn _ z (.inl rfl)) e
  have k2 : ∀ {nm c v}, (nm, c) ∈ env.cells → s.heap.IsCell c v → h'.IsCell c v := fun hm h => let ⟨o, e, d⟩ := h; ⟨o, hk _ o (fun z => hn _ z (.inr (.inl ⟨_, hm⟩))) e, d⟩
  have k3 : ∀ W, KeepSeq W s.heap h' := fun W b o _ e q => hk b _ (fun z => hs b z _ e q) e
  have k4 : ∀ {x v}, VarIs s.heap env x v → VarIs h' env x v := fun h => by
    rcases h with ⟨a, m, b, e⟩ | ⟨a, c, b, e⟩
    · exact .inl ⟨a, m, k1 b, e⟩
    · exact .inr ⟨a, c, b, k2 (mem_of_lookup b) e⟩
  exact ⟨F.ok₀, F.rel.but F.ok₀ hw hk, F.prot₀, F.kind, F.globals, F.builtins, F.fresh, let ⟨m, h⟩ := F.ns; ⟨m, k1 h⟩,
    ⟨fun nm c e => let ⟨v, h⟩ := F.cl.cell nm c e; ⟨v, k2 e h⟩, F.cl.apart, F.cl.above⟩, fun x p e => let ⟨v, a, b⟩ := F.vars x p e; ⟨v, k4 a, b.mono (k3 _)⟩,
    fun a e => let ⟨l, x, xs, e', hv, items, k, g, r⟩ := F.own a e; ⟨l, x, xs, e', k4 hv, items, k, k3 (fun _ => False) _ _ id g (isSeq ..), r.mono (k3 _)⟩, F.has⟩

theorem FS.exists_mut (F : FS cx q s₀ W₀ env ρ ow oa s) {b : Addr} (h : MutOf env oa b) : ∃ o, s.heap.get? b = some o := by
  rcases h with rfl | ⟨nm, h⟩ | h
  · obtain ⟨m, o, _, _, e, _⟩ := F.ns; exact ⟨o, e⟩
  · obtain ⟨v, o, e, _⟩ := F.cl.cell nm b h; exact ⟨o, e⟩
  · obtain ⟨_, _, _, _, _, items, k, g, _⟩ := F.own b h; exact ⟨_, g⟩
theorem FS.seq_not_mut (F : FS cx q s₀ W₀ env ρ ow oa s) {b : Addr} {T : String} {items : Array Value} {k : Nat} (e : s.heap.get? b = some (seqObj T items k)) (hb : oa ≠ some b) : ¬ MutOf env oa b := fun h => by
  rcases h with rfl | ⟨nm, h⟩ | h
  · obtain ⟨m, o, _, _, e', d, _⟩ := F.ns; rw [e] at e'; cases e'; cases d
  · obtain ⟨v, o, e', d⟩ := F.cl.cell nm b h; rw [e] at e'; cases e'; cases d
  · exact hb h

theorem Run1_for {x : Str} {px pos : Pos} {iter : Expr} {body : List Stmt} {ps : List PV} {Φ : Out → Prop} (J : Nat → Ctxt → Option (Str × List PV) → Prop) (hit : EvIter cx q n env ρ ow iter ps) (hx : storable env x) (h0 : J 0 ρ ow)
    (step : ∀ i p ρ' ow', ps[i]? = some p → J i ρ' ow' → Runs cx q n env ((x, p) :: ρ') ow' body (fun o => match o with | .next ρ'' ow'' => J (i + 1) ρ'' ow'' | .ret r => Φ (.ret r)))
    (done : ∀ ρ' ow', J ps.length ρ' ow' → Φ (.next ρ' ow')) (hox : ∀ i ρ' ow', J i ρ' ow' → ∀ y xs, ow' = some (y, xs) → y ≠ x)
    (hs : ∀ v, foldedSetIterable iter env v = pure v := by intro _; rfl) : Run1 cx q n env ρ ow (.For (.Name x px) iter body [] pos) Φ := fun A s s₀ W₀ oa E hA F => by
  refine wpAny_For (wpAny_mono (hit A s _ E hA F.es) (fun xv s₁ h₁ => wpAny_mono h₁ (fun it s₂ h₂ => ?_) fun _ _ e => e) fun _ _ e => e) hs
  obtain ⟨r2, I, fp, wr, P, St, X⟩ := h₂
  have hI := X.ref
  subst hI
  have W := X.walks A hA.hh
  -- what the iterator stands upon is none of the frame's own
  have fpok : ∀ b ∈ fp, ¬ MutOf env oa b ∧ b ≠ cx.P := fun b hb => by
    rcases X.fpd b hb with h | ⟨hw, T, items, k, h⟩
    · refine ⟨fun hm => ?_, F.ok.neP h⟩
      obtain ⟨o, e⟩ := F.exists_mut hm
      rw [h] at e; cases e
    · exact ⟨F.seq_not_mut h fun e => hw (.inr e), (solid_seq T items k).ne F.ok.gi h⟩
  have wrn₀ : ∀ b ∈ wr, s₀.heap.get? b = none := fun b hb => F.rel.back F.ok₀ (X.wrn b hb)
  refine codeAny_forLoop (fun k s' => ∃ i ρ' ow' oa', i ≤ ps.length ∧ k = ps.length - i ∧ J i ρ' ow' ∧ FS cx q s₀ W₀ env ρ' ow' oa' s' ∧ St i s'.heap ∧ Kept cx q env oa s s' ∧ OwnStep oa oa' s ∧ (∀ b ∈ fp, ¬ MutOf env oa' b))
    ?_ ps.length ⟨0, ρ, ow, oa, Nat.zero_le _, rfl, h0, F.step r2, X.start, .of_rel r2, .refl, fun b hb => (fpok b hb).1⟩
  rintro k s' ⟨i, ρ', ow', oa', hi, rfl, hJ, F', hst, hk, ho, hd⟩
  have wfp : ∀ b ∈ wr, b ∈ fp := fun b hb => W.sub b hb
  have kept_but : ∀ {h' : Heap} {tk : Nat}, (∀ b o, b ∉ wr → s'.heap.get? b = some o → h'.get? b = some o) → Kept cx q env oa s { s' with heap := h', toks := tk } := fun hk' b o hm hP e =>
    hk' b o (fun z => by rw [X.wrn b z] at e; cases e) (hk b o hm hP e)
  have F'' : ∀ {h' : Heap} {tk : Nat}, (∀ b o, b ∉ wr → s'.heap.get? b = some o → h'.get? b = some o) → FS cx q s₀ W₀ env ρ' ow' oa' { s' with heap := h', toks := tk } := fun hk' =>
    F'.but wrn₀ (fun b hb => hd b (wfp b hb)) (fun b hb => ((X.ex i _ hst).2 b hb).2) hk'
  by_cases hlt : i < ps.length
  · refine W.item i _ _ _ hlt hst fun v h₁ tk₁ hv hst₁ hk₁ => ?_
    obtain ⟨p, hp, rp⟩ := X.item i v hv
    have F1 := F'' (tk := tk₁) hk₁
    refine wpAny_assign_Name (wpAny_mono (store_var F1 (rp.2 _ _) hx (hox i ρ' ow' hJ)) (fun _ s₃ h₃ => ?_) fun _ _ e => e)
    obtain ⟨F3, k3⟩ := h₃
    have st3 : St (i + 1) s₃.heap := W.frame _ _ _ hst₁ fun b hb o e => k3 b o (hd b hb) (.inr (fpok b hb).2) e
    refine wpAny_mono (step i p ρ' ow' hp hJ A s₃ s₀ W₀ oa' _ hA F3) (fun fl s₄ h₄ => ?_) fun _ _ e => e
    have kk3 : Kept cx q env oa s s₃ := (kept_but hk₁).trans ho k3
    cases fl with
    | next =>
      obtain ⟨ρ₄, ow₄, oa₄, a4, F4, k4, o4⟩ := h₄
      have st4 : St (i + 1) s₄.heap := W.frame _ _ _ st3 fun b hb o e => k4 b o (hd b hb) (.inr (fpok b hb).2) e
      refine ⟨ps.length - (i + 1), by omega, i + 1, ρ₄, ow₄, oa₄, hlt, rfl, a4, F4, st4, kk3.trans ho k4, ho.trans kk3 o4 F4, fun b hb hm => ?_⟩
      rcases hm with hm | hm | hm
      · exact hd b hb (.inl hm)
      · exact hd b hb (.inr (.inl hm))
      · rcases o4 b hm with z | z
        · exact hd b hb (.inr (.inr z))
        · obtain ⟨o, e⟩ := (X.ex _ _ st3).1 b hb
          rw [z] at e; cases e
    | ret v =>
      obtain ⟨r, a4, r4, rr4, k4⟩ := h₄
      exact ⟨r, a4, r4, rr4, kk3.trans ho k4⟩
    | brk => exact h₄.elim
    | cont => exact h₄.elim
  · have hin : i = ps.length := by omega
    refine W.done _ _ _ (hin ▸ hst) fun h₁ tk₁ hk₁ => wpAny_execs_nil ?_
    exact ⟨ρ', ow', oa', done ρ' ow' (hin ▸ hJ), F'' hk₁, kept_but hk₁, ho⟩
end Mine

namespace Mine
variable {cx : Cx} {q : Bool} {n : Nat} {env : Env} {ρ : Ctxt} {ow : Option (Str × List PV)} {s₀ s : Shared} {W₀ : Addr → Prop} {oa : Option Addr}

abbrev iop (op : Operator) : List Value → Sem Value := fun vs => inplaceOp op (vs.getD 0 .none) (vs.getD 1 .none)
theorem op_iadd {a b : Int} : Op cx q n (iop .Add) [.int a, .int b] (.int (a + b)) := .mk2 fun A s W x y E hA V rx ry => by cases rx; cases ry; exact iadd_int ⟨tokk _ _, .int _ _⟩
theorem op_isub {a b : Int} : Op cx q n (iop .Sub) [.int a, .int b] (.int (a - b)) := .mk2 fun A s W x y E hA V rx ry => by cases rx; cases ry; exact isub_int ⟨tokk _ _, .int _ _⟩
theorem op_ixor {a b : Int} : Op cx q n (iop .BitXor) [.int a, .int b] (.int (Builtin.bitXor a b)) := .mk2 fun A s W x y E hA V rx ry => by cases rx; cases ry; exact ixor_int ⟨tokk _ _, .int _ _⟩

theorem Run1_aug {x : Str} {px pos : Pos} {op : Operator} {e : Expr} {a b c : PV} {Φ : Out → Prop} (hxa : ρ.lookup x = some a) (h : Ev cx q n env ρ ow e b) (ho : Op cx q n (iop op) [a, b] c) (hx : storable env x) (hΦ : Φ (.next ((x, c) :: ρ) ow))
    (hox : ∀ y xs, ow = some (y, xs) → y ≠ x := by intro _ _ h; cases h) : Run1 cx q n env ρ ow (.AugAssign (.Name x px) op e pos) Φ := fun A s s₀ W₀ oa E hA F => by
  obtain ⟨v, hv, rv⟩ := F.vars x a hxa
  refine wpAny_AugAssign_Name (load_var F.kind hv ?_)
  refine wpAny_mono (h A s _ E hA F.es) (fun u s₁ h₁ => ?_) fun _ _ e => e
  have F1 := F.step h₁.1
  refine wpAny_mono (ho A s₁ (wof W₀ oa) [v, u] E hA F1.vs (.cons (h₁.1.rep F.ok rv) (.cons h₁.2 .nil))) (fun y s₂ h₂ => ?_) fun _ _ e => e
  refine wpAny_mono (store_var (F1.step h₂.1) h₂.2 hx hox) (fun _ s₃ h₃ => ?_) fun _ _ e => e
  exact ⟨_, _, oa, hΦ, h₃.1, (Kept.of_rel (h₁.1.trans h₂.1)).trans .refl h₃.2, .refl⟩

/-- an expression gives a list that is new: nothing else holds it -/
def EvF (cx : Cx) (q : Bool) (n : Nat) (env : Env) (ρ : Ctxt) (ow : Option (Str × List PV)) (e : Expr) (xs : List PV) : Prop :=
  ∀ (A : Around) (s : Shared) (W : Addr → Prop) (E : Value → Shared → Prop), AOK n A → ES cx q W env ρ ow s →
    wpAny (model cx.prog cx.w) A (eval e env) (fun v s' => Rel cx q s s' ∧ ∃ a, v = .ref a ∧ s.heap.get? a = none ∧ ListAt noW s'.heap a xs) E s
theorem EvF_list {es : List Expr} {pos : Pos} {ps : List PV} (h : EvAll cx q n env ρ ow es ps) (hsz : ps.length ≤ 1000 := by decide) : EvF cx q n env ρ ow (.List es pos) ps := fun A s W E hA S => by
  refine wpAny_List (wpAny_mono (h A s W E pos hA S) (fun vs s₁ h₁ => ?_) fun _ _ e => e)
  obtain ⟨r, k⟩ := h₁
  refine ⟨by rw [k.length, sizeLine_is]; omega, r.trans (.push _ _), _, rfl, r.back S.vs.ok (none_of_le (Nat.le_refl _)), _, _, Heap.get?_push_size _ rfl, ?_⟩
  exact ((Rel.push (cx := cx) (q := q) s₁ _).repAll (r.ok S.vs.ok) k).weak fun _ _ _ _ => id
theorem EvF_add {l r : Expr} {pos : Pos} {xs ys : List PV} (hl : Ev cx q n env ρ ow l (.list xs)) (hr : Ev cx q n env ρ ow r (.list ys)) (hsz : xs.length + ys.length ≤ 10000) : EvF cx q n env ρ ow (.BinOp l .Add r pos) (xs ++ ys) := fun A s W E hA S => by
  refine wpAny_BinOp (wpAny_mono (hl A s W E hA S) (fun v s₁ h₁ => ?_) fun _ _ e => e)
  refine wpAny_mono (hr A s₁ W E hA (S.rel h₁.1)) (fun u s₂ h₂ => ?_) fun _ _ e => e
  have V₂ := (S.vs.rel h₁.1).rel h₂.1
  have r1 := h₂.1.rep (S.vs.rel h₁.1).ok h₁.2
  have r2 := h₂.2
  cases r1 with | list w g r => cases r2 with | list w' g' r' =>
  have l1 := r.length
  have l2 := r'.length
  simp only [Array.length_toList] at l1 l2
  refine P.add_list g g' ⟨(h₁.1.trans h₂.1).trans (.push _ _), _, rfl, (h₁.1.trans h₂.1).back S.vs.ok (none_of_le (Nat.le_refl _)), _, _, Heap.get?_push_size _ rfl, ?_⟩ (by rw [sizeLine_eq]; omega)
  rw [Array.toList_append]
  exact ((Rel.push (cx := cx) (q := q) s₂ _).repAll V₂.ok (r.append r')).weak fun _ _ _ _ => id

theorem scalars_weak {W W' : Addr → Prop} {h : Heap} {vs : List Value} {ps : List PV} (r : RepAll W h vs ps) (hs : ∀ p ∈ ps, p.scalar = true) : RepAll W' h vs ps := by
  induction vs generalizing ps with
  | nil => cases r; exact .nil
  | cons v vs ih => cases r with | cons a b => exact .cons (a.scalar (hs _ (List.mem_cons_self ..))) (ih b fun p hp => hs p (List.mem_cons_of_mem _ hp))

/-- the frame takes a new list of plain items as its own -/
theorem FS.own_new {x : Str} {xs : List PV} {a : Addr} (F : FS cx q s₀ W₀ env ρ none oa s) (hs : ∀ p ∈ xs, p.scalar = true) (hl : ListAt noW s.heap a xs) (hn : s₀.heap.get? a = none)
    (hv : VarIs s.heap env x (.ref a)) (hd : ∀ y p, ρ.lookup y = some p → y ≠ x → ∃ v, VarIs s.heap env y v ∧ Rep (wof W₀ (some a)) s.heap v p) (ρ' : Ctxt) (hρ : ∀ y p, ρ'.lookup y = some p → y ≠ x ∧ ρ.lookup y = some p) :
    FS cx q s₀ W₀ env ρ' (some (x, xs)) (some a) s :=
  ⟨F.ok₀, F.rel, F.prot₀, F.kind, F.globals, F.builtins, F.fresh, F.ns, F.cl, fun y p e => hd y p (hρ y p e).2 (hρ y p e).1,
   fun b e => by cases e; exact ⟨hn, x, xs, rfl, hv, let ⟨items, k, g, r⟩ := hl; ⟨items, k, g, scalars_weak r hs⟩⟩, fun _ => rfl⟩

theorem Rep.newAt {W : Addr → Prop} {h : Heap} {v : Value} {p : PV} {a : Addr} (r : Rep W h v p) (hn : h.get? a = Option.none) : Rep (fun b => W b ∨ b = a) h v p :=
  r.weak fun b o e w z => z.elim w fun z => by rw [z, hn] at e; cases e

/-- forget the names of x -/
def without (x : Str) (ρ : Ctxt) : Ctxt := ρ.filter fun p => p.1 != x
theorem without_lookup {x y : Str} {p : PV} : ∀ {ρ : Ctxt}, (without x ρ).lookup y = some p → y ≠ x ∧ ρ.lookup y = some p
  | [], e => by cases e
  | (z, r) :: ρ, e => by
    unfold without at e
    by_cases hz : z = x
    · subst hz
      simp only [List.filter_cons, bne_self_eq_false, Bool.false_eq_true, if_false] at e
      obtain ⟨h1, h2⟩ := without_lookup (ρ := ρ) (x := z) e
      refine ⟨h1, ?_⟩
      rw [lookup_cons_ne h1]; exact h2
    · have : (z != x) = true := by simpa using hz
      simp only [List.filter_cons, this, if_true] at e
      by_cases hy : y = z
      · subst hy
        rw [lookup_cons_eq] at e
        exact ⟨hz, by rw [lookup_cons_eq]; exact e⟩
      · rw [lookup_cons_ne hy] at e
        obtain ⟨h1, h2⟩ := without_lookup (ρ := ρ) (x := x) e
        exact ⟨h1, by rw [lookup_cons_ne hy]; exact h2⟩

/-- x = a new list, which the frame will write -/
theorem Run1_own {x : Str} {px pos : Pos} {e : Expr} {xs : List PV} {Φ : Out → Prop} (h : EvF cx q n env ρ none e xs) (hsc : ∀ p ∈ xs, p.scalar = true) (hx : storable env x) (hΦ : Φ (.next (without x ρ) (some (x, xs))))
    (hs : swapsWith e (some (.Name x px)) pos.line env = pure false := by rfl) : Run1 cx q n env ρ none (.Assign [.Name x px] e pos) Φ := fun A s s₀ W₀ oa E hA F => by
  refine wpAny_Assign_Name (wpAny_mono (h A s _ E hA F.es) (fun v s₁ h₁ => ?_) fun _ _ e => e) hs
  obtain ⟨r, a, rfl, hn, hl⟩ := h₁
  have F1 := F.step r
  have hoa : oa = none := by
    cases oa with
    | none => rfl
    | some b => obtain ⟨_, x, xs, e, _⟩ := F.own b rfl; cases e
  subst hoa
  have hr : Rep (wof W₀ none) s₁.heap (.ref a) (.list xs) := by
    obtain ⟨items, k, g, rr⟩ := hl
    refine .list (fun z => z.elim (fun w => ?_) fun z => by cases z) g (scalars_weak rr hsc)
    obtain ⟨_, _, _, e⟩ := F.prot₀ a w
    rw [F.rel.back F.ok₀ hn] at e; cases e
  -- the names' values lie off the new address
  have off : ∀ y p, ρ.lookup y = some p → ∃ v, VarIs s₁.heap env y v ∧ Rep (fun b => wof W₀ none b ∨ b = a) s₁.heap v p := fun y p e => by
    obtain ⟨v, hv, rv⟩ := F.vars y p e
    exact ⟨v, hv.rel r F.ok, r.rep F.ok (rv.newAt hn)⟩
  refine wpAny_mono (store_var' (v := .ref a) F1 hr hx (by intro _ _ h; cases h)) (fun _ s₂ h₂ => ?_) fun _ _ e => e
  obtain ⟨⟨F2, k2⟩, up, ks, hvx⟩ := h₂
  have n₀ : s₀.heap.get? a = none := F.rel.back F.ok₀ hn
  have hl2 : ListAt noW s₂.heap a xs := let ⟨items, k, g, rr⟩ := hl; ⟨items, k, ks noW _ _ id g (isSeq ..), rr.mono (ks _)⟩
  have F3 : FS cx q s₀ W₀ env (without x ρ) (some (x, xs)) (some a) s₂ := by
    refine ⟨F2.ok₀, F2.rel, F2.prot₀, F2.kind, F2.globals, F2.builtins, F2.fresh, F2.ns, F2.cl, fun y p e => ?_, fun b e => ?_, fun _ => rfl⟩
    · obtain ⟨hy, e'⟩ := without_lookup e
      obtain ⟨v, hv, rv⟩ := off y p e'
      exact ⟨v, up y v hy hv, (rv.mono (ks _)).weak fun b o _ w z => w (z.elim (fun z => .inl (.inl z)) fun z => .inr (Option.some.inj z).symm)⟩
    · cases e
      exact ⟨n₀, x, xs, rfl, hvx, let ⟨items, k, g, rr⟩ := hl2; ⟨items, k, g, scalars_weak rr hsc⟩⟩
  exact ⟨_, _, some a, hΦ, F3, (Kept.of_rel r).trans .refl k2, fun b e => by cases e; exact .inr hn⟩

/-- the own list, handed out at the end -/
theorem Run1_return_own {x : Str} {xp pos : Pos} {xs : List PV} {Φ : Out → Prop} (hΦ : Φ (.ret (.list xs))) (hd : (x == ("__debug__" : Str)) = false := by rfl) : Run1 cx q n env ρ (some (x, xs)) (.Return (some (.Name x xp)) pos) Φ := fun A s s₀ W₀ oa E hA F => by
  obtain ⟨a, ha⟩ := Option.isSome_iff_exists.mp (F.has rfl)
  obtain ⟨hn, y, ys, e, hv, items, k, g, r⟩ := F.own a ha
  cases e
  refine wpAny_Return_some (wpAny_Name (load_var F.kind hv ?_) hd)
  exact ⟨_, hΦ, F.rel, .list (F.notW hn) g (r.weak fun _ _ _ z w => z (.inl w)), .refl⟩

theorem oa_of {x : Str} {xs : List PV} (F : FS cx q s₀ W₀ env ρ (some (x, xs)) oa s) : ∃ a, oa = some a ∧ s₀.heap.get? a = none ∧ VarIs s.heap env x (.ref a) ∧ ListAt (wof W₀ oa) s.heap a xs := by
  obtain ⟨a, ha⟩ := Option.isSome_iff_exists.mp (F.has rfl)
  obtain ⟨hn, y, ys, e, hv, hl⟩ := F.own a ha
  cases e
  exact ⟨a, ha, hn, hv, hl⟩

/-- the frame's facts after the own list was written -/
theorem FS.written {x : Str} {xs ys : List PV} {a : Addr} (F : FS cx q s₀ W₀ env ρ (some (x, xs)) (some a) s) {h' : Heap} {tk : Nat} (hs : Heap.SameBut a s.heap h') (hl : ListAt (wof W₀ (some a)) h' a ys) :
    FS cx q s₀ W₀ env ρ (some (x, ys)) (some a) { s with heap := h', toks := tk } ∧ Kept cx q env (some a) s { s with heap := h', toks := tk } := by
  obtain ⟨b, hb, hn, hv, items, k, g, r⟩ := oa_of F
  cases hb
  have k1 : ∀ {m}, s.heap.Ns env.locals m → h'.Ns env.locals m := fun h => h.sameBut hs (Ne.symm (F.oa_locals rfl))
  have k2 : ∀ {nm c v}, (nm, c) ∈ env.cells → s.heap.IsCell c v → h'.IsCell c v := fun hm h => h.sameBut hs fun z => F.oa_cells rfl _ (z ▸ hm)
  have k3 : KeepSeq (wof W₀ (some a)) s.heap h' := fun b o hw e _ => (hs.2 b fun z => hw (.inr (by rw [z]))).trans e
  have k4 : ∀ {x v}, VarIs s.heap env x v → VarIs h' env x v := fun h => by
    rcases h with ⟨a, m, b, e⟩ | ⟨a, c, b, e⟩
    · exact .inl ⟨a, m, k1 b, e⟩
    · exact .inr ⟨a, c, b, k2 (mem_of_lookup b) e⟩
  refine ⟨⟨F.ok₀, F.rel.local F.ok₀ hn hs _, F.prot₀, F.kind, F.globals, F.builtins, F.fresh, let ⟨m, h⟩ := F.ns; ⟨m, k1 h⟩,
    ⟨fun nm c e => let ⟨v, h⟩ := F.cl.cell nm c e; ⟨v, k2 e h⟩, F.cl.apart, F.cl.above⟩, fun x p e => let ⟨v, a, b⟩ := F.vars x p e; ⟨v, k4 a, b.mono k3⟩,
    fun b e => by cases e; exact ⟨hn, x, ys, rfl, k4 hv, hl⟩, fun _ => rfl⟩, Kept.at (.inr (.inr rfl)) hs _⟩

theorem Run1_append {x : Str} {e : Expr} {np apos cpos pos : Pos} {xs : List PV} {p : PV} {Φ : Out → Prop} (h : Ev cx q n env ρ (some (x, xs)) e p) (hp : p.scalar = true) (hsz : xs.length ≤ 100000) (hΦ : Φ (.next ρ (some (x, xs ++ [p]))))
    (hd : (x == ("__debug__" : Str)) = false := by rfl) (hbase : attributeBase (.Name x np) "append" env (eval (.Name x np) env) = eval (.Name x np) env := by rfl)
    (hfew : ((backTo cpos (starEach [e] env)).all (fun x => !x.1) && (backToKw cpos (keywordEach [] env)).all (fun x => x.1.isSome) && decide (([e] : List Expr).length + ([] : List Keyword).length + (if ([] : List Keyword).isEmpty then 0 else 1) < 30)) = true := by rfl)
    (hline : (apos.endLine == cpos.line) = true := by rfl) (htrees : backTo cpos (starEach [e] env) = [(false, eval e env)] := by rfl) (hi : interactive env = false := by rfl)
    (hs : swapsWith (.Call (.Attribute (.Name x np) "append" apos) [e] [] cpos) none pos.line env = pure false := by rfl) : Run1 cx q n env ρ (some (x, xs)) (.Expr (.Call (.Attribute (.Name x np) "append" apos) [e] [] cpos) pos) Φ := fun A s s₀ W₀ oa E hA F => by
  obtain ⟨a, rfl, hn, hv, items, k, g, r⟩ := oa_of F
  have l1 := r.length
  simp only [Array.length_toList] at l1
  refine wpAny_Expr_any (wpAny_Call_append hbase hfew hline htrees (wpAny_Name (load_var F.kind hv ⟨a, items, rfl, ⟨_, k, g, rfl, rfl, rfl⟩, ?_⟩) hd)) hi hs
  refine wpAny_mono (h A s _ E hA F.es) (fun v s₁ h₁ => ?_) fun _ _ e => e
  have F1 := F.step h₁.1
  have g1 := h₁.1.get F.ok g (solid_seq _ _ _)
  refine wpAny_list_append_plain (items := items) ⟨k, g1⟩ (fun h' hl' hs' => ?_) (by rw [sizeLine_eq]; omega)
  obtain ⟨k', g'⟩ := hl'
  have F2 := F1.written (ys := xs ++ [p]) (tk := s₁.toks) hs' ⟨_, k', g', by
    rw [Array.toList_push]
    have kk : KeepSeq (wof W₀ (some a)) s₁.heap h' := fun b o hw e _ => (hs'.2 b fun z => hw (.inr (by rw [z]))).trans e
    exact ((h₁.1.repAll F.ok r).mono kk).append (.cons (h₁.2.scalar hp) .nil)⟩
  exact ⟨_, _, some a, hΦ, F2.1, (Kept.of_rel h₁.1).trans .refl F2.2, .refl⟩

/-- x[i] = e, upon the own list -/
theorem Run1_setitem {x : Str} {i e : Expr} {np ipos pos : Pos} {xs : List PV} {k : Int} {p : PV} {Φ : Out → Prop} (h : Ev cx q n env ρ (some (x, xs)) e p) (hi : Ev cx q n env ρ (some (x, xs)) i (.int k)) (hp : p.scalar = true) (h0 : 0 ≤ k) (hk : k < xs.length) (hsz : xs.length ≤ 100000)
    (hΦ : Φ (.next ρ (some (x, xs.set k.toNat p)))) (hd : (x == ("__debug__" : Str)) = false := by rfl)
    (hs : swapsWith e (some (.Subscript (.Name x np) i ipos)) pos.line env = pure false := by rfl) : Run1 cx q n env ρ (some (x, xs)) (.Assign [.Subscript (.Name x np) i ipos] e pos) Φ := fun A s s₀ W₀ oa E hA F => by
  obtain ⟨a, rfl, hn, hv, items, m, g, r⟩ := oa_of F
  have l1 := r.length
  simp only [Array.length_toList] at l1
  refine wpAny_Assign_Subscript (wpAny_mono (h A s _ E hA F.es) (fun v s₁ h₁ => ?_) fun _ _ e => e) hs
  have F1 := F.step h₁.1
  refine wpAny_Name (load_var F.kind (hv.rel h₁.1 F.ok) ?_) hd
  refine wpAny_mono (hi A s₁ _ E hA F1.es) (fun u s₂ h₂ => ?_) fun _ _ e => e
  obtain ⟨r2, k2⟩ := h₂
  cases k2
  have F2 := F1.step r2
  have g2 := r2.get F1.ok (h₁.1.get F.ok g (solid_seq _ _ _)) (solid_seq _ _ _)
  refine ki_setAt (items := items) g2 h0 (by omega) (by omega) ?_
  have hs' : Heap.SameBut a s₂.heap (s₂.heap.update a (Obj.mapSeq (·.setIfInBounds k.toNat v))) := Heap.SameBut.update ..
  have F3 := F2.written (ys := xs.set k.toNat p) (tk := s₂.toks) hs' ⟨_, _, Heap.get?_update_self _ g2 rfl, by
    have kk : KeepSeq (wof W₀ (some a)) s₂.heap (s₂.heap.update a (Obj.mapSeq (·.setIfInBounds k.toNat v))) := fun b o hw e _ => (hs'.2 b fun z => hw (.inr (by rw [z]))).trans e
    rw [Array.toList_setIfInBounds]
    exact ((r2.repAll F1.ok (h₁.1.repAll F.ok r)).mono kk).set (h₁.2.scalar hp) k.toNat⟩
  exact ⟨_, _, some a, hΦ, F3.1, (Kept.of_rel (h₁.1.trans r2)).trans .refl F3.2, .refl⟩
theorem Run1_while {test : Expr} {body : List Stmt} {pos : Pos} {Φ : Out → Prop} (J : Nat → Ctxt → Option (Str × List PV) → Prop) (k₀ : Nat) (h0 : J k₀ ρ ow)
    (step : ∀ k ρ' ow', J k ρ' ow' → ∃ b, EvT cx q n env ρ' ow' test b ∧ (b = true → Runs cx q n env ρ' ow' body (fun o => match o with | .next ρ'' ow'' => ∃ k', k' < k ∧ J k' ρ'' ow'' | .ret r => Φ (.ret r))) ∧ (b = false → Φ (.next ρ' ow'))) :
    Run1 cx q n env ρ ow (.While test body [] pos) Φ := fun A s s₀ W₀ oa E hA F => by
  refine wpAny_While (codeAny_whileLoop (fun k s' => ∃ ρ' ow' oa', J k ρ' ow' ∧ FS cx q s₀ W₀ env ρ' ow' oa' s' ∧ Kept cx q env oa s s' ∧ OwnStep oa oa' s) ?_ k₀ ⟨ρ, ow, oa, h0, F, .refl, .refl⟩)
  rintro k s' ⟨ρ', ow', oa', hJ, F', hk, ho⟩
  obtain ⟨b, ht, hb, hf⟩ := step k ρ' ow' hJ
  refine wpAny_mono (ht A s' _ _ hA F'.es) (fun c s₂ h₂ => ?_) fun _ _ e => e
  obtain ⟨r, rfl⟩ := h₂
  have F2 := F'.step r
  have k2 : Kept cx q env oa s s₂ := hk.trans ho (.of_rel r)
  have o2 : OwnStep oa oa' s := ho
  cases c with
  | false =>
    simp only [Bool.false_eq_true, if_false]
    exact wpAny_execs_nil ⟨ρ', ow', oa', hf rfl, F2, k2, o2⟩
  | true =>
    simp only [if_true]
    refine wpAny_mono (hb rfl A s₂ s₀ W₀ oa' _ hA F2) (fun fl s₄ h₄ => ?_) fun _ _ e => e
    cases fl with
    | next =>
      obtain ⟨ρ₄, ow₄, oa₄, ⟨k', hlt, a4⟩, F4, k4, o4⟩ := h₄
      exact ⟨k', hlt, ρ₄, ow₄, oa₄, a4, F4, k2.trans o2 k4, o2.trans k2 o4 F4⟩
    | ret v =>
      obtain ⟨p, a4, r4, rr4, k4⟩ := h₄
      exact ⟨p, a4, r4, rr4, k2.trans o2 k4⟩
    | brk => exact h₄.elim
    | cont => exact h₄.elim

/-- a, b, .. = values: store in order -/
theorem store_all {M : Model} {A : Around} {E : Value → Shared → Prop} : ∀ {names : List (Str × Pos)} {vs : List Value} {ps : List PV} {ρ : Ctxt} {s : Shared}, FS cx q s₀ W₀ env ρ ow oa s → RepAll (wof W₀ oa) s.heap vs ps → names.length = ps.length →
    (∀ x ∈ names, storable env x.1 ∧ ∀ y xs, ow = some (y, xs) → y ≠ x.1) →
    wpAny M A (assignInOrder (names.map fun x => assign (.Name x.1 x.2) env) vs) (fun _ s' => FS cx q s₀ W₀ env (((names.map (·.1)).zip ps).reverse ++ ρ) ow oa s' ∧ Kept cx q env oa s s') E s
  | [], vs, ps, ρ, s, F, r, hl, hn => by
    cases ps with
    | nil => cases r; exact wpAny_pure ⟨F, .refl⟩
    | cons => cases hl
  | (x, px) :: names, vs, ps, ρ, s, F, r, hl, hn => by
    cases r with
    | nil => cases hl
    | cons a b =>
      rename_i v p vs ps
      show wpAny M A (do holding vs (assign (.Name x px) env v); assignInOrder (names.map fun x => assign (.Name x.1 x.2) env) vs) _ E s
      obtain ⟨h1, h2⟩ := hn (x, px) (List.mem_cons_self ..)
      refine wpAny_bind (wpAny_holding (wpAny_assign_Name (wpAny_mono (store_var' F a h1 h2) (fun _ s₁ h₁ => ?_) fun _ _ e => e)))
      obtain ⟨⟨F1, k1⟩, _, ks, _⟩ := h₁
      refine wpAny_mono (store_all (ρ := (x, p) :: ρ) F1 (b.mono (ks _)) (by simpa using hl) fun y hy => hn y (List.mem_cons_of_mem _ hy)) (fun _ s₂ h₂ => ?_) fun _ _ e => e
      refine ⟨?_, k1.trans .refl h₂.2⟩
      have e : ((((x, px) :: names).map (·.1)).zip (p :: ps)).reverse ++ ρ = ((names.map (·.1)).zip ps).reverse ++ (x, p) :: ρ := by simp
      rw [e]; exact h₂.1

theorem Run1_unpack {names : List (Str × Pos)} {elts : List Expr} {k : Nat} {tpos pos : Pos} {e : Expr} {p : PV} {ps : List PV} {Φ : Out → Prop} (he : elts = names.map fun x => .Name x.1 x.2) (h : Ev cx q n env ρ ow e p) (hp : p = .tup ps ∨ p = .list ps) (hl : names.length = ps.length)
    (hn : ∀ x ∈ names, storable env x.1 ∧ ∀ y xs, ow = some (y, xs) → y ≠ x.1) (hΦ : Φ (.next (((names.map (·.1)).zip ps).reverse ++ ρ) ow))
    (hs : swapsWithSole [.Tuple elts k tpos] e pos.line env = pure false := by rfl) (hw : swappedStores [.Tuple elts k tpos] e env = pure none := by rfl) : Run1 cx q n env ρ ow (.Assign [.Tuple elts k tpos] e pos) Φ := fun A s s₀ W₀ oa E hA F => by
  refine Assign_Tuple (wpAny_mono (h A s _ E hA F.es) (fun v s₁ h₁ => ?_) fun _ _ e => e) hs hw
  obtain ⟨r, rv⟩ := h₁
  have F1 := F.step r
  subst he
  have hae : ∀ names : List (Str × Pos), (assignEach (names.map fun x => Expr.Name x.1 x.2) env) = names.map fun x => (false, assign (.Name x.1 x.2) env) := by
    intro names
    induction names with
    | nil => rfl
    | cons x r ih => rw [List.map_cons, List.map_cons, ← ih]; rfl
  have hstar : (assignEach (names.map fun x => Expr.Name x.1 x.2) env).findIdx? (·.1) = none := by rw [hae]; simp [List.findIdx?_eq_none_iff]
  have hmap : (assignEach (names.map fun x => Expr.Name x.1 x.2) env).map (·.2) = names.map fun x => assign (.Name x.1 x.2) env := by rw [hae]; simp [Function.comp_def]
  have fin : ∀ {items : Array Value} {h' : Heap}, RepAll (wof W₀ oa) s₁.heap items.toList ps → Heap.ExtBut s₁.heap.objs.size s₁.heap h' →
      wpAny (model cx.prog cx.w) A (assignInOrder ((assignEach (names.map fun x => Expr.Name x.1 x.2) env).map (·.2)) items.toList) (fun _ s' => RunPost cx q s₀ W₀ env oa s Φ .next s') E { s₁ with heap := h' } := by
    intro items h' rr hx
    have r2 : Rel cx q s₁ { s₁ with heap := h' } := .of_keeps ⟨h', s₁.toks, rfl, fun b o e => hx b o (Nat.ne_of_lt (Heap.lt_size e)) e⟩
    rw [hmap]
    refine wpAny_mono (store_all (F1.step r2) (r2.repAll F1.ok rr) hl hn) (fun _ s₂ h₂ => ?_) fun _ _ e => e
    exact ⟨_, _, oa, hΦ, h₂.1, (Kept.of_rel (r.trans r2)).trans .refl h₂.2, .refl⟩
  have hlen : (assignEach (names.map fun x => Expr.Name x.1 x.2) env).length = ps.length := by rw [hae]; simpa using hl
  rcases hp with rfl | rfl
  · cases rv with | tup w g rr =>
    have l1 := rr.length
    simp only [Array.length_toList] at l1
    refine wpAny_assign_Tuple hA.hh ⟨_, g, rfl, _, rfl⟩ (by rw [hlen, l1]) hstar fun h' hx => fin rr hx
  · cases rv with | list w g rr =>
    have l1 := rr.length
    simp only [Array.length_toList] at l1
    rw [PyProof.Rows.assign_Tuple]
    refine wpAny_bind (wpAny_standAt ?_)
    unfold unpack
    rw [hlen, ← l1, hstar]
    exact wpAny_bind (wpAny_holding (kun_itemsOf hA.hh ⟨_, g, rfl, _, rfl⟩ fun h' hx => fin rr hx))

end Mine

namespace Mine
variable {cx : Cx} {q : Bool} {n : Nat} {env : Env} {ρ : Ctxt} {ow : Option (Str × List PV)} {s₀ s : Shared} {W₀ : Addr → Prop} {oa : Option Addr}

/-- a def of the top stands at a -/
structure FnAt (cx : Cx) (f : Str) (a : Addr) (fd : FuncData) : Prop where
  mg : cx.mg f = some (.ref a)
  obj : ∃ o, cx.h₁.get? a = some o ∧ o.data = .func fd
  code : cx.h₁.CodeRec fd.code fd.qualname

theorem FnAt.get (C : CxOK cx) {f : Str} {a : Addr} {fd : FuncData} (H : FnAt cx f a fd) {h : Heap} (g : GI cx h) : ∃ o, h.get? a = some o ∧ o.data = .func fd := by
  obtain ⟨o, e, d⟩ := H.obj
  refine ⟨o, g.get e fun z => ?_, d⟩
  have := C.base.tab.2
  rw [← z, e] at this; cases this; cases d
theorem FnAt.codeRec (C : CxOK cx) {f : Str} {a : Addr} {fd : FuncData} (H : FnAt cx f a fd) {h : Heap} (g : GI cx h) : h.CodeRec fd.code fd.qualname := by
  obtain ⟨c, o, vs, t, e, g', d, r⟩ := id H.code
  have x := H.code
  rw [e] at x ⊢
  exact ⟨c, o, vs, t, rfl, g.get g' (C.base.ne_of_rec x), d, r⟩

/-- a call of the def at a, with room for n calls below it -/
def Fn (cx : Cx) (q : Bool) (n : Nat) (f : Str) (ps : List PV) (p : PV) : Prop := ∃ a fd, FnAt cx f a fd ∧ Op cx q (n + 1) (fun vs => call (.ref a) vs) ps p

theorem Fn.le {n m : Nat} {f : Str} {ps : List PV} {p : PV} (x : Fn cx q n f ps p) (h : n ≤ m) : Fn cx q m f ps p :=
  let ⟨a, fd, H, o⟩ := x; ⟨a, fd, H, fun A s W vs E hA => o A s W vs E (hA.le (by omega))⟩

theorem cellsFrom_names : ∀ (names : List (Str × NameKind)) (k : Nat) (acc : List (Str × Addr)), (cellsFrom k names acc).map (·.1) = ((names.filter fun x => x.2 == .cell).map (·.1)).reverse ++ acc.map (·.1)
  | [], k, acc => by simp [cellsFrom]
  | (nm, kd) :: r, k, acc => by
    unfold cellsFrom
    by_cases h : (kd == NameKind.cell) = true
    · rw [if_pos h, cellsFrom_names r]; simp [List.filter_cons, h]
    · rw [if_neg h, cellsFrom_names r]; simp [List.filter_cons, h]
theorem lookup_of_mem {α : Type} : ∀ {l : List (Str × α)} {nm : Str} {c : α}, (l.map (·.1)).Nodup → (nm, c) ∈ l → l.lookup nm = some c
  | (x, d) :: r, nm, c, hn, hm => by
    obtain ⟨h1, h2⟩ := List.nodup_cons.mp hn
    rcases List.mem_cons.mp hm with e | hm
    · cases e; simp [List.lookup]
    · have : nm ≠ x := fun z => h1 (z ▸ List.mem_map.mpr ⟨_, hm, rfl⟩)
      have hb : (nm == x) = false := by simpa using this
      simp only [List.lookup_cons, hb]
      exact lookup_of_mem h2 hm

theorem bindL_other {k : Str → Option NameKind} : ∀ (binds : List (Str × Value)) (m : Str → Option Value) (x : Str), x ∉ binds.map (·.1) → bindL k binds m x = m x
  | [], m, x, _ => rfl
  | (y, v) :: r, m, x, h => by
    unfold bindL
    rw [bindL_other r _ x fun z => h (List.mem_cons_of_mem _ z)]
    have : x ≠ y := fun z => h (z ▸ List.mem_cons_self ..)
    split
    · simp [this]
    · rfl
theorem bindL_of {k : Str → Option NameKind} : ∀ (binds : List (Str × Value)) (m : Str → Option Value) (x : Str) (v : Value), (binds.map (·.1)).Nodup → binds.lookup x = some v → k x = some .local → bindL k binds m x = some v
  | (y, u) :: r, m, x, v, hn, hl, hk => by
    obtain ⟨h1, h2⟩ := List.nodup_cons.mp hn
    unfold bindL
    by_cases hx : x = y
    · subst hx
      simp only [List.lookup_cons, beq_self_eq_true] at hl
      cases hl
      rw [bindL_other r _ x h1, if_pos hk]; simp
    · have hb : (x == y) = false := by simpa using hx
      simp only [List.lookup_cons, hb] at hl
      exact bindL_of r _ x v h2 hl hk
theorem bindC_other {k : Str → Option NameKind} : ∀ (binds : List (Str × Value)) (m : Str → Option Value) (x : Str), x ∉ binds.map (·.1) → bindC k binds m x = m x
  | [], m, x, _ => rfl
  | (y, v) :: r, m, x, h => by
    unfold bindC
    rw [bindC_other r _ x fun z => h (List.mem_cons_of_mem _ z)]
    have : x ≠ y := fun z => h (z ▸ List.mem_cons_self ..)
    split
    · rfl
    · simp [this]
theorem bindC_of {k : Str → Option NameKind} : ∀ (binds : List (Str × Value)) (m : Str → Option Value) (x : Str) (v : Value), (binds.map (·.1)).Nodup → binds.lookup x = some v → k x = some .cell → bindC k binds m x = some v
  | (y, u) :: r, m, x, v, hn, hl, hk => by
    obtain ⟨h1, h2⟩ := List.nodup_cons.mp hn
    unfold bindC
    by_cases hx : x = y
    · subst hx
      simp only [List.lookup_cons, beq_self_eq_true] at hl
      cases hl
      rw [bindC_other r _ x h1, if_neg (by rw [hk]; decide)]; simp
    · have hb : (x == y) = false := by simpa using hx
      simp only [List.lookup_cons, hb] at hl
      exact bindC_of r _ x v h2 hl hk

theorem zip_rep {W : Addr → Prop} {h : Heap} : ∀ {names : List Str} {vs : List Value} {ps : List PV}, RepAll W h vs ps → ∀ {x : Str} {p : PV}, (names.zip ps).lookup x = some p → ∃ v, (names.zip vs).lookup x = some v ∧ Rep W h v p
  | [], vs, ps, r, x, p, e => by simp at e
  | y :: names, vs, ps, r, x, p, e => by
    cases r with
    | nil => simp at e
    | cons a b =>
      simp only [List.zip_cons_cons, List.lookup_cons] at e ⊢
      cases hb : x == y with
      | true => rw [hb] at e; cases e; exact ⟨_, rfl, a⟩
      | false => rw [hb] at e; exact zip_rep b e

/-- what a def's body must give -/
def Gives (p : PV) : Out → Prop
  | .ret r => r = p
  | .next _ _ => p = .none

theorem Fn_intro {f : Str} {a : Addr} {fd : FuncData} {body : List Stmt} {names : List Str} {ps : List PV} {p : PV} (C : CxOK cx) (H : FnAt cx f a fd) (hbody : fd.body = .stmts body) (hclo : fd.closure = []) (hlen : names.length = ps.length)
    (hbind : ∀ vs : List Value, vs.length = names.length → bindArgs fd ⟨vs, []⟩ = pure (names.zip vs)) (hnd : names.Nodup)
    (hkind : ∀ x ∈ names, fd.scope.names.lookup x = some .local ∨ (fd.scope.names.lookup x = some .cell ∧ ∀ k, ((cellsFrom k fd.scope.names []).lookup x).isSome = true))
    (hcn : ((fd.scope.names.filter fun x => x.2 == .cell).map (·.1)).Nodup) (hgl : fd.globals = mainGlobals) (hbi : fd.builtins = builtinsNs)
    (hco : fd.scope.isCoroutine = false) (hgen : fd.scope.isGenerator = false) (hk : fd.scope.kind = .function)
    (hR : ∀ L, Runs cx q n (callEnvC fd L a) (names.zip ps) none body (Gives p)) : Fn cx q n f ps p := by
  refine ⟨a, fd, H, fun A s W vs E hA V r => ?_⟩
  obtain ⟨o, ho, hd⟩ := H.get C V.ok.gi
  have hvs : vs.length = names.length := by rw [r.length, hlen]
  have hzn : (names.zip vs).map (·.1) = names := by
    rw [List.map_fst_zip (by omega)]
  have hmem : ∀ x ∈ names.zip vs, x.1 ∈ names := fun x hx => by rw [← hzn]; exact List.mem_map.mpr ⟨x, hx, rfl⟩
  refine wpAny_call (codeAny_call_cells hA.room ho hd (V.ok.gi.nolimit C) (H.codeRec C V.ok.gi) hbody (hbind vs hvs) hclo (fun x hx => (hkind x.1 (hmem x hx)).imp id fun y => ⟨y.1, y.2 _⟩) (fun s₁ X => ?_) hco hgen hk)
  obtain ⟨h₁, tk, rfl, hkeep⟩ := X.done
  have R : Rel cx q s { s with heap := h₁, toks := tk } := .of_keeps ⟨h₁, tk, rfl, hkeep⟩
  have hcells : ((callEnvC fd s.heap.objs.size a).cells.map (·.1)).Nodup := by
    show ((cellsFrom (s.heap.objs.size + 1) fd.scope.names []).map (·.1)).Nodup
    rw [cellsFrom_names, List.map_nil, List.append_nil]; exact List.pairwise_reverse.mpr (hcn.imp fun h => Ne.symm h)
  have F : FS cx q s W (callEnvC fd s.heap.objs.size a) (names.zip ps) none none { s with heap := h₁, toks := tk } := by
    refine ⟨V.ok, R, V.prot, hk, hgl, hbi, X.toInCall.fresh, ⟨_, X.toInCall.ns⟩, ⟨fun nm c e => ⟨_, X.cell nm c (lookup_of_mem hcells e)⟩, X.apart, X.above⟩, fun x p' e => ?_, fun a e => (nomatch e), fun e => (nomatch e)⟩
    obtain ⟨v, hv, rv⟩ := zip_rep r e
    have hxn : x ∈ names := by
      have := mem_of_lookup hv
      exact hmem _ this
    refine ⟨v, ?_, (R.rep V.ok rv).weak fun b o _ w z => z.elim w fun z => (nomatch z)⟩
    rcases hkind x hxn with hl | ⟨hl, hc⟩
    · exact .inl ⟨hl, _, X.toInCall.ns, bindL_of _ _ _ _ (by rw [hzn]; exact hnd) hv hl⟩
    · obtain ⟨c, hc'⟩ := Option.isSome_iff_exists.mp (hc (s.heap.objs.size + 1))
      have := X.cell x c hc'
      rw [bindC_of _ _ _ _ (by rw [hzn]; exact hnd) hv hl] at this
      exact .inr ⟨.inl hl, c, hc', this⟩
  refine wpAny_mono (hR s.heap.objs.size _ _ s W none _ (hA.deeper _) F) (fun fl s' h => ?_) fun _ _ e => e
  cases fl with
  | next =>
    obtain ⟨ρ', ow', oa', g, F', _⟩ := h
    have : p = .none := g
    subst this
    exact ⟨F'.rel, .none⟩
  | ret v =>
    obtain ⟨p', g, r', rr, _⟩ := h
    have : p' = p := g
    subst this
    exact ⟨r', rr⟩
  | brk => exact h.elim
  | cont => exact h.elim

theorem Ev_call {f : Str} {xp pos : Pos} {e : Expr} {es : List Expr} {p : PV} {ps : List PV} {c : PV} (C : CxOK cx) (hf : Fn cx q n f (p :: ps) c) (hx : env.kindOf f = some .globalImplicit)
    (ha : EvAll cx q (n + 1) env ρ ow (e :: es) (p :: ps)) (he : ∀ env, starEach (e :: es) env = (false, eval e env) :: starEach es env := by intro _; rfl)
    (hd : (f == ("__debug__" : Str)) = false := by rfl) : Ev cx q (n + 1) env ρ ow (.Call (.Name f xp) (e :: es) [] pos) c := fun A s W E hA S => by
  obtain ⟨a, fd, H, ho⟩ := hf
  rw [eval_Call_name]
  refine wpAny_bind (Name_function_global S.kind hx (loadGlobal_global (S.globals ▸ S.vs.ok.gi.ns C C.g) H.mg ?_) hd)
  have key := ha A s W E pos hA S
  obtain ⟨o, ho1, hdd⟩ := H.get C S.vs.ok.gi
  refine callWith_function (o := o) (fd := fd) ?_
  rw [he] at key ⊢
  refine evalArgs_plain (wpAny_mono key (fun vs s₁ h₁ => ?_) fun _ _ e => e)
  refine ⟨⟨h₁.1.get S.vs.ok ho1 (.inr fun vs => by rw [hdd]; intro z; cases z), hdd⟩, ?_⟩
  rw [List.nil_append]
  exact wpAny_mono (ho A s₁ W vs E hA (S.vs.rel h₁.1) h₁.2) (fun v s₂ h₂ => ⟨h₁.1.trans h₂.1, h₂.2⟩) fun _ _ e => e

/-- the names that a comprehension sees as cells -/
structure CompEnv (scope : Scope) (env : Env) (cl : List (Str × Addr)) (ρ ρc : Ctxt) (x : Str) : Prop where
  clos : closureFor scope env = pure cl
  cell : ∀ y ∈ scope.names, y.2 ≠ .cell
  kind : scope.kind = .function
  names : ∀ y ∈ scope.names, y.2 = .local → scope.names.lookup y.1 = some .local
  hx : scope.names.lookup x = some .local
  sees : ∀ e ∈ ρc, ρ.lookup e.1 = some e.2 ∧ env.kindOf e.1 = some .cell ∧ (relabel scope env).names.lookup e.1 = some .cell ∧ cl.lookup e.1 = env.cells.lookup e.1

theorem compES {scope : Scope} {cl : List (Str × Addr)} {ρc : Ctxt} {x : Str} {W : Addr → Prop} {s s₂ s₃ : Shared} {wr : List Addr} {C : Addr} {m₃ : Str → Option Value} {v : Value} {p : PV} (H : CompEnv scope env cl ρ ρc x) (S : ES cx q W env ρ ow s) (r : Rel cx q s s₂) (hw : ∀ b ∈ wr, s.heap.get? b = none)
    (hC : s₃.heap.Ns C m₃) (hm : m₃ x = some v) (hr : SRep v p) (hk : ∀ b o, b ∉ wr → s₂.heap.get? b = some o → s₃.heap.get? b = some o) :
    ES cx true W (compEnvC scope cl C env) ((x, p) :: ρc) none s₃ := by
  have gi : GI cx s₃.heap := by
    obtain ⟨g', ps, B, kk⟩ := r.gi S.vs.ok.gi
    refine ⟨g', ps, B, fun b o e => hk b o (fun z => ?_) (kk b o e)⟩
    by_cases hP : b = cx.P
    · exact S.vs.ok.neP (hw b z) hP
    · have := base_none S.vs.ok (hw b z)
      rw [← B.same.2 b hP, e] at this; cases this
  have get : ∀ b o, Solid o → s.heap.get? b = some o → s₃.heap.get? b = some o := fun b o so e => hk b o (fun z => by rw [hw b z] at e; cases e) (r.get S.vs.ok e so)
  refine ⟨⟨⟨gi, fun e => (nomatch e)⟩, fun b hb => ?_⟩, H.kind, S.globals, S.builtins, fun y p' e => ?_, fun y xs e => (nomatch e)⟩
  · obtain ⟨T, items, k, e⟩ := S.vs.prot b hb
    exact ⟨T, items, k, get _ _ (solid_seq _ _ _) e⟩
  · by_cases hy : y = x
    · subst hy
      rw [lookup_cons_eq] at e; cases e
      exact ⟨v, .inl ⟨lookup_relabel_local H.hx, m₃, hC, hm⟩, hr.2 _ _⟩
    · rw [lookup_cons_ne hy] at e
      obtain ⟨h1, h2, h3, h4⟩ := H.sees _ (mem_of_lookup e)
      obtain ⟨u, hu, ru⟩ := S.vars y p' h1
      refine ⟨u, ?_, ru.mono fun b o _ e q => get _ _ (.inr fun vs => by obtain ⟨_, _, d⟩ := q; rw [d]; intro z; cases z) e⟩
      rcases hu with ⟨a, _⟩ | ⟨a, c, b, o, e, d⟩
      · rw [h2] at a; cases a
      · exact .inr ⟨.inl h3, c, h4.trans b, o, get _ _ (.inr fun vs => by rw [d]; intro z; cases z) e, d⟩

theorem comp_items {f : PV → PV} : ∀ {vs ys : List Value} {ps : List PV}, vs.length = ps.length → (∀ (j : Nat) (v : Value), vs[j]? = some v → ∃ p, ps[j]? = some p ∧ SRep v p) → Paired (fun v y => ∀ p ∈ ps, SRep v p → SRep y (f p)) vs ys → ∀ W h, RepAll W h ys (ps.map f) := by
  intro vs ys ps hl hv hp W h
  have key : ∀ {vs ys : List Value} {qs : List PV}, (∀ p ∈ qs, p ∈ ps) → vs.length = qs.length → (∀ (j : Nat) (v : Value), vs[j]? = some v → ∃ p, qs[j]? = some p ∧ SRep v p) → Paired (fun v y => ∀ p ∈ ps, SRep v p → SRep y (f p)) vs ys → RepAll W h ys (qs.map f) := by
    intro vs ys qs hm hl hv hp
    induction hp generalizing qs with
    | nil => cases qs with
      | nil => exact .nil
      | cons => cases hl
    | cons a b ih =>
      cases qs with
      | nil => cases hl
      | cons p qs =>
        obtain ⟨p', hp', sr⟩ := hv 0 _ rfl
        simp only [List.getElem?_cons_zero, Option.some.injEq] at hp'
        subst hp'
        exact .cons ((a p (hm p (List.mem_cons_self ..)) sr).2 _ _) (ih (fun p hp => hm p (List.mem_cons_of_mem _ hp)) (by simpa using hl) fun j v hj => by simpa using hv (j + 1) v (by simpa using hj))
  exact key (fun _ => id) hl hv hp

theorem filter_true {α : Type} (l : List α) : l.filter (fun _ => true) = l := by simp

theorem Ev_comp {elt iter : Expr} {x : Str} {px pos : Pos} {scope : Scope} {cl : List (Str × Addr)} {ps : List PV} {ρc : Ctxt} (f : PV → PV) (hit : EvIter cx q n env ρ ow iter ps) (H : CompEnv scope env cl ρ ρc x) (hsz : ps.length ≤ 100000)
    (helt : ∀ C, ∀ p ∈ ps, Ev cx true n (compEnvC scope cl C env) ((x, p) :: ρc) none elt (f p)) (hsc : ∀ p ∈ ps, (f p).scalar = true) (hs : ∀ x, foldedSetIterable iter env x = pure x := by intro _; rfl) :
    Ev cx q n env ρ ow (.ListComp elt [⟨.Name x px, iter, [], 0⟩] scope pos) (.list (ps.map f)) := fun A s W E hA S => by
  refine wpAny_ListComp_free (fun _ => true) (fun v y => ∀ p ∈ ps, SRep v p → SRep y (f p)) H.clos H.cell H.kind H.names H.hx (wpAny_mono (hit A s W E hA S) (fun xv s₁ h₁ => wpAny_mono h₁ (fun it s₂ h₂ => ?_) fun _ _ e => e) fun _ _ e => e) hs
  obtain ⟨r2, I, fp, wr, P, St, X⟩ := h₂
  refine ⟨I, fp, wr, ps.length, P, St, X.ref, X.walks A hA.hh, by rw [sizeLine_eq]; omega, X.start, fun b hb => ?_, ⟨fun C i v s₃ m₃ E' hC hv hn hm hk htk => wpAny_tests_nil ⟨rfl, s₃.heap, s₃.toks, rfl, fun _ _ e => e⟩, fun C i v s₃ m₃ E' hC hv _ hn hm hk htk => ?_⟩, fun D h' tk ys vs hD hl hpl hlen hP hF hk => ?_⟩
  · obtain ⟨o, e⟩ := (X.ex 0 _ X.start).1 b hb
    exact Heap.lt_size e
  · obtain ⟨p, hp, sr⟩ := X.item i v hv
    have hpm := List.mem_of_getElem? hp
    refine wpAny_mono (helt C p hpm A s₃ W E' hA (compES H S r2 X.wrn hn hm sr hk)) (fun y s₄ h₄ => ⟨fun p' hp' sr' => ?_, h₄.1.keeps⟩) fun _ _ e => e
    have : p' = p := by
      have h1 := sr.2 noW {}
      have h2 := sr'.2 noW {}
      cases h1 <;> cases h2 <;> first | rfl | cases sr.1
    subst this
    exact h₄.2.srep (hsc _ hp')
  · rw [filter_true] at hF
    obtain ⟨k, g⟩ := hpl
    have hD' : s.heap.get? D = none := r2.back S.vs.ok hD
    refine ⟨r2.but S.vs.ok X.wrn hk, .list (fun w => ?_) g (comp_items hlen (fun j v hj => X.item j v (hP j v hj)) hF _ _)⟩
    obtain ⟨T, items, k, e⟩ := S.vs.prot D w
    rw [hD'] at e; cases e

/-- x = [elt for ..] -/
theorem Run1_assign_comp {elt iter : Expr} {x y : Str} {px py cpos pos : Pos} {scope : Scope} {cl : List (Str × Addr)} {ps : List PV} {ρc : Ctxt} {Φ : Out → Prop} (f : PV → PV) (hit : EvIter cx q n env ρ ow iter ps) (H : CompEnv scope env cl ρ ρc x) (hsz : ps.length ≤ 100000)
    (helt : ∀ C, ∀ p ∈ ps, Ev cx true n (compEnvC scope cl C env) ((x, p) :: ρc) none elt (f p)) (hsc : ∀ p ∈ ps, (f p).scalar = true) (hy : env.kindOf y = some .local) (hΦ : Φ (.next ((y, .list (ps.map f)) :: ρ) ow)) (hox : ∀ z xs, ow = some (z, xs) → z ≠ y := by intro _ _ h; cases h)
    (hsw : swapsWith (.ListComp elt [⟨.Name x px, iter, [], 0⟩] scope cpos) (some (.Name y py)) pos.line env = pure true := by rfl) (hs : ∀ x, foldedSetIterable iter env x = pure x := by intro _; rfl) :
    Run1 cx q n env ρ ow (.Assign [.Name y py] (.ListComp elt [⟨.Name x px, iter, [], 0⟩] scope cpos) pos) Φ := fun A s s₀ W₀ oa E hA F => by
  have S := F.es
  refine wpAny_Assign_ListComp_free (fun _ => true) (fun v y => ∀ p ∈ ps, SRep v p → SRep y (f p)) hsw H.clos H.cell H.kind H.names H.hx hy (by rw [F.kind]; rfl) (wpAny_mono (hit A s _ E hA S) (fun xv s₁ h₁ => wpAny_mono h₁ (fun it s₂ h₂ => ?_) fun _ _ e => e) fun _ _ e => e) hs
  obtain ⟨r2, I, fp, wr, P, St, X⟩ := h₂
  have F2 := F.step r2
  obtain ⟨m, hm⟩ := id F2.ns
  have hLw : env.locals ∉ wr := fun z => by
    obtain ⟨m, o, _, _, e, _⟩ := F.ns
    rw [X.wrn _ z] at e; cases e
  refine ⟨I, fp, wr, ps.length, P, St, m, X.ref, X.walks A hA.hh, by rw [sizeLine_eq]; omega, X.start, fun b hb => ?_, hLw, hm, ⟨fun C i v s₃ m₃ E' hC hv hn hm hk htk => wpAny_tests_nil ⟨rfl, s₃.heap, s₃.toks, rfl, fun _ _ e => e⟩, fun C i v s₃ m₃ E' hC hv _ hn hm hk htk => ?_⟩, fun D h' tk ys vs hD hl hpl hlen hP hF hns hk => ?_⟩
  · obtain ⟨o, e⟩ := (X.ex 0 _ X.start).1 b hb
    exact Heap.lt_size e
  · obtain ⟨p, hp, sr⟩ := X.item i v hv
    have hpm := List.mem_of_getElem? hp
    refine wpAny_mono (helt C p hpm A s₃ _ E' hA (compES H S r2 X.wrn hn hm sr hk)) (fun y s₄ h₄ => ⟨fun p' hp' sr' => ?_, h₄.1.keeps⟩) fun _ _ e => e
    have : p' = p := by
      have h1 := sr.2 noW {}
      have h2 := sr'.2 noW {}
      cases h1 <;> cases h2 <;> first | rfl | cases sr.1
    subst this
    exact h₄.2.srep (hsc _ hp')
  · rw [filter_true] at hF
    obtain ⟨k, g⟩ := hpl
    have hD' : s.heap.get? D = none := r2.back S.vs.ok hD
    have D₀ : s₀.heap.get? D = none := F.rel.back F.ok₀ hD'
    have L₀ : s₀.heap.get? env.locals = none := none_of_le F.fresh
    have wseq : ∀ b ∈ wr, ∀ o, s₂.heap.get? b = some o → ¬ IsSeq o := fun b hb => ((X.ex 0 _ X.start).2 b hb).2
    have ks : ∀ W, KeepSeq W s₂.heap h' := fun W b o _ e q => hk b _ (fun z => by
      obtain ⟨m, o, _, _, e1, e2, _⟩ := F2.ns
      obtain ⟨_, _, d⟩ := q
      rw [← z, e] at e1; cases e1
      rw [e2] at d; cases d) (fun z => wseq b z _ e q) e
    have kc : ∀ {nm c v}, (nm, c) ∈ env.cells → s₂.heap.IsCell c v → h'.IsCell c v := fun hm h => by
      obtain ⟨o, e, d⟩ := h
      refine ⟨o, hk _ o (Nat.ne_of_gt (F.cl.above _ _ hm)) (fun z => ?_) e, d⟩
      obtain ⟨v, o, e, _⟩ := F.cl.cell _ _ hm
      rw [X.wrn _ z] at e; cases e
    have kv : ∀ {z v}, z ≠ y → VarIs s₂.heap env z v → VarIs h' env z v := fun hz h => by
      rcases h with ⟨a, m₂, b, e⟩ | ⟨a, c, b, e⟩
      · refine .inl ⟨a, _, hns, ?_⟩
        show (if _ = y then _ else m _) = _
        rw [if_neg hz, ← e]; exact hm.agree b _
      · exact .inr ⟨a, c, b, kc (mem_of_lookup b) e⟩
    have F3 : FS cx q s₀ W₀ env ((y, .list (ps.map f)) :: ρ) ow oa { s₂ with heap := h', toks := tk } := by
      refine ⟨F2.ok₀, F2.rel.but F2.ok₀ (wr := env.locals :: wr) (fun b hb => ?_) fun b o hb e => ?_, F2.prot₀, F2.kind, F2.globals, F2.builtins, F2.fresh, ⟨_, hns⟩,
        ⟨fun nm c e => let ⟨v, h⟩ := F2.cl.cell nm c e; ⟨v, kc e h⟩, F2.cl.apart, F2.cl.above⟩, fun z p e => ?_, fun a e => ?_, F2.has⟩
      · rcases List.mem_cons.mp hb with rfl | hb
        · exact L₀
        · exact F.rel.back F.ok₀ (X.wrn b hb)
      · exact hk b o (fun z => hb (z ▸ List.mem_cons_self ..)) (fun z => hb (List.mem_cons_of_mem _ z)) e
      · by_cases hz : z = y
        · subst hz
          rw [lookup_cons_eq] at e; cases e
          refine ⟨.ref D, .inl ⟨hy, _, hns, by simp⟩, .list (fun w => ?_) g (comp_items hlen (fun j v hj => X.item j v (hP j v hj)) hF _ _)⟩
          rcases w with w | w
          · exact F.notW D₀ w
          · obtain ⟨_, _, _, _, _, items, k, g', _⟩ := F.own D w
            rw [hD'] at g'; cases g'
        · rw [lookup_cons_ne hz] at e
          obtain ⟨u, hu, ru⟩ := F2.vars z p e
          exact ⟨u, kv hz hu, ru.mono (ks _)⟩
      · obtain ⟨l, z, xs, e', hv, items, k, g, r⟩ := F2.own a e
        exact ⟨l, z, xs, e', kv (hox z xs e') hv, items, k, ks noW _ _ id g (isSeq ..), r.mono (ks _)⟩
    refine ⟨_, _, oa, hΦ, F3, fun b o hmu hP' e => ?_, .refl⟩
    exact hk b o (fun z => hmu (.inl z)) (fun z => by rw [X.wrn b z] at e; cases e) (r2.keep b o hP' e)

end Mine

namespace Mine
variable {cx : Cx} {q : Bool} {n : Nat}

theorem and_or_sum (a b : Nat) : (a ||| b) + (a &&& b) = a + b := by
  induction a using Nat.div2Induction generalizing b with
  | ind a ih =>
    by_cases h : a = 0
    · subst h; simp
    · have h2 := ih (by omega) (b / 2)
      have e1 := Nat.or_div_two (a := a) (b := b)
      have e2 := Nat.and_div_two (a := a) (b := b)
      have m1 : (a ||| b) % 2 = (a % 2 ||| b % 2) := Nat.or_mod_two_pow (n := 1)
      have m2 : (a &&& b) % 2 = (a % 2 &&& b % 2) := Nat.and_mod_two_pow (n := 1)
      have c : (a % 2 ||| b % 2) + (a % 2 &&& b % 2) = a % 2 + b % 2 := by
        rcases Nat.mod_two_eq_zero_or_one a with x | x <;> rcases Nat.mod_two_eq_zero_or_one b with y | y <;> rw [x, y] <;> decide
      omega
theorem xor_and_sum (a b : Nat) : (a ^^^ b) + 2 * (a &&& b) = a + b := by
  induction a using Nat.div2Induction generalizing b with
  | ind a ih =>
    by_cases h : a = 0
    · subst h; simp
    · have h2 := ih (by omega) (b / 2)
      have e1 := Nat.xor_div_two (a := a) (b := b)
      have e2 := Nat.and_div_two (a := a) (b := b)
      have m1 : (a ^^^ b) % 2 = (a % 2 ^^^ b % 2) := Nat.xor_mod_two_pow (n := 1)
      have m2 : (a &&& b) % 2 = (a % 2 &&& b % 2) := Nat.and_mod_two_pow (n := 1)
      have c : (a % 2 ^^^ b % 2) + 2 * (a % 2 &&& b % 2) = a % 2 + b % 2 := by
        rcases Nat.mod_two_eq_zero_or_one a with x | x <;> rcases Nat.mod_two_eq_zero_or_one b with y | y <;> rw [x, y] <;> decide
      omega

theorem bitAnd_nat (a b : Nat) : Builtin.bitAnd (a : Int) (b : Int) = ((a &&& b : Nat) : Int) := by
  unfold Builtin.bitAnd
  have h1 : decide ((0 : Int) ≤ a) = true := by simp
  have h2 : decide ((0 : Int) ≤ b) = true := by simp
  rw [h1, h2]
  simp
theorem bitOr_nat (a b : Nat) : Builtin.bitOr (a : Int) (b : Int) = ((a ||| b : Nat) : Int) := by
  rw [bitOr_and, bitAnd_nat]; have := and_or_sum a b; omega
theorem bitXor_nat (a b : Nat) : Builtin.bitXor (a : Int) (b : Int) = ((a ^^^ b : Nat) : Int) := by
  rw [bitXor_and, bitAnd_nat]; have := xor_and_sum a b; omega

abbrev PV.nat (k : Nat) : PV := .int (k : Int)
theorem Op.to {k : List Value → Sem Value} {ps : List PV} {c c' : PV} (x : Op cx q n k ps c) (h : c = c') : Op cx q n k ps c' := h ▸ x
theorem Ev_nat {env : Env} {ρ : Ctxt} {ow : Option (Str × List PV)} (k : Nat) {i : Int} {kd : Nat} {pos : Pos} (h : i = (k : Int) := by rfl) : Ev cx q n env ρ ow (.Constant (.int i) kd pos) (.nat k) := h ▸ Ev_int

section
variable {a b : Nat}
theorem op_andN : Op cx q n (bop .BitAnd) [.nat a, .nat b] (.nat (a &&& b)) := op_and.to (by rw [bitAnd_nat])
theorem op_orN : Op cx q n (bop .BitOr) [.nat a, .nat b] (.nat (a ||| b)) := op_or.to (by rw [bitOr_nat])
theorem op_xorN : Op cx q n (bop .BitXor) [.nat a, .nat b] (.nat (a ^^^ b)) := op_xor.to (by rw [bitXor_nat])
theorem op_ixorN : Op cx q n (iop .BitXor) [.nat a, .nat b] (.nat (a ^^^ b)) := op_ixor.to (by rw [bitXor_nat])
theorem op_shrN : Op cx q n (bop .RShift) [.nat a, .nat b] (.nat (a >>> b)) := by
  have : ((a >>> b : Nat) : Int) = (a : Int).fdiv (2 ^ (b : Int).toNat) := by
    rw [Nat.shiftRight_eq_div_pow, Int.fdiv_eq_ediv_of_nonneg _ (by exact Int.le_of_lt (Int.pow_pos (by decide)))]
    simp
  exact (op_shr (by omega)).to (by rw [PV.nat, this])
theorem op_shlN (hb : b ≤ 1000) (ha : a < 2 ^ 64) : Op cx q n (bop .LShift) [.nat a, .nat b] (.nat (a <<< b)) := by
  have : ((a <<< b : Nat) : Int) = (a : Int) * 2 ^ (b : Int).toNat := by
    rw [Nat.shiftLeft_eq]; simp
  exact (op_shl (by omega) (by omega) (by simpa using ha)).to (by rw [PV.nat, this])
theorem op_addN : Op cx q n (bop .Add) [.nat a, .nat b] (.nat (a + b)) := by
  rw [show PV.nat (a + b) = .int ((a : Int) + b) by simp [PV.nat]]; exact op_add
theorem op_iaddN : Op cx q n (iop .Add) [.nat a, .nat b] (.nat (a + b)) := by
  rw [show PV.nat (a + b) = .int ((a : Int) + b) by simp [PV.nat]]; exact op_iadd
theorem op_subN (h : b ≤ a) : Op cx q n (bop .Sub) [.nat a, .nat b] (.nat (a - b)) := by
  rw [show PV.nat (a - b) = .int ((a : Int) - b) by simp only [PV.nat]; congr 1; omega]; exact op_sub
theorem op_isubN (h : b ≤ a) : Op cx q n (iop .Sub) [.nat a, .nat b] (.nat (a - b)) := by
  rw [show PV.nat (a - b) = .int ((a : Int) - b) by simp only [PV.nat]; congr 1; omega]; exact op_isub
theorem op_modN (h : b ≠ 0) : Op cx q n (bop .Mod) [.nat a, .nat b] (.nat (a % b)) := by
  have : ((a % b : Nat) : Int) = (a : Int).fmod b := by rw [Int.fmod_eq_emod_of_nonneg _ (by omega)]; simp
  exact (op_fmod (by omega)).to (by rw [PV.nat, this])
theorem op_divN (h : b ≠ 0) (hs : b < 1073741824) : Op cx q n (bop .FloorDiv) [.nat a, .nat b] (.nat (a / b)) := by
  have : ((a / b : Nat) : Int) = (a : Int).fdiv b := by rw [Int.fdiv_eq_ediv_of_nonneg _ (by omega)]; simp
  exact (op_fdiv (by omega) (by simpa using hs)).to (by rw [PV.nat, this])
theorem intMulOk_small {a b : Int} (hb : b.natAbs < 2 ^ 60) : IntMulOk a b := by
  refine IntMulOk.of_right ?_
  unfold Builtin.Int.intBits
  by_cases h : (b == 0) = true
  · rw [if_pos h]; omega
  · rw [if_neg h]
    have h0 : b.natAbs ≠ 0 := by simpa using h
    have := (Nat.log2_lt h0).mpr hb
    omega
theorem op_mulN (hb : b < 2 ^ 60) : Op cx q n (bop .Mult) [.nat a, .nat b] (.nat (a * b)) := by
  have : ((a * b : Nat) : Int) = (a : Int) * b := by simp
  exact (op_mul (intMulOk_small (by simpa using hb))).to (by rw [PV.nat, this])
theorem op_powN (hb : b ≤ 10) : Op cx q n (bop .Pow) [.nat 2, .nat b] (.nat (2 ^ b)) := by
  have : ((2 ^ b : Nat) : Int) = (2 : Int) ^ (b : Int).toNat := by simp
  refine (op_pow (by omega) ?_).to (by rw [PV.nat, this]; rfl)
  have : Builtin.Int.intBits ((2 : Nat) : Int) = 2 := by decide
  rw [this]; omega
theorem op_ltN : Op cx q n (cop .Lt) [.nat a, .nat b] (.bool (decide (a < b))) := by
  rw [show decide (a < b) = decide ((a : Int) < b) by simp]; exact op_lt
theorem op_gtN : Op cx q n (cop .Gt) [.nat a, .nat b] (.bool (decide (b < a))) := by
  rw [show decide (b < a) = decide ((b : Int) < a) by simp]; exact op_gt
theorem op_geN : Op cx q n (cop .GtE) [.nat a, .nat b] (.bool (decide (b ≤ a))) := by
  rw [show decide (b ≤ a) = decide ((b : Int) ≤ a) by simp]; exact op_ge
theorem op_eqN : Op cx q n (cop .Eq) [.nat a, .nat b] (.bool (decide (a = b))) := by
  rw [show decide (a = b) = decide ((a : Int) = b) by rw [decide_eq_decide]; omega]; exact op_eq
theorem op_neN : Op cx q n (cop .NotEq) [.nat a, .nat b] (.bool (!decide (a = b))) := by
  rw [show decide (a = b) = decide ((a : Int) = b) by rw [decide_eq_decide]; omega]; exact op_ne
end
theorem tru_nat (a : Nat) : tru (.nat a) = some (a != 0) := by
  simp only [tru, PV.nat]; congr 1
  rw [Bool.eq_iff_iff]; simp
end Mine

namespace Mine
variable {cx : Cx} {q : Bool} {n : Nat} {env : Env} {ρ : Ctxt} {ow : Option (Str × List PV)} {s₀ s : Shared} {W₀ : Addr → Prop} {oa : Option Addr}

theorem Ev_or2 {x y : Expr} {pos : Pos} {a b : Bool} (hx : Ev cx q n env ρ ow x (.bool a)) (hy : a = false → Ev cx q n env ρ ow y (.bool b)) : Ev cx q n env ρ ow (.BoolOp .Or [x, y] pos) (.bool (a || b)) := fun A s W E hA S => by
  refine wpAny_Or2 (wpAny_mono (hx A s W E hA S) (fun v s₁ h₁ => ?_) fun _ _ e => e)
  obtain ⟨r, k⟩ := h₁
  cases k
  refine wpAny_truthy_bool ?_
  cases a with
  | true => exact ⟨r, .bool _⟩
  | false => exact wpAny_mono (hy rfl A s₁ W E hA (S.rel r)) (fun d s₂ h₂ => ⟨r.trans h₂.1, h₂.2⟩) fun _ _ e => e

/-- the table of the code object at c, after a look for a generator's code -/
theorem genexprCode_any {M : Model} {A : Around} {E : Value → Shared → Prop} {e : Env} {c P : Addr} {ps : Array Value} {pos : Pos} {ql : Str} {scope : Scope} {Q : Value → Shared → Prop}
    (hc : e.code = .ref c) (hok : s.heap.IsCode c P ps) (htab : s.heap.TableAt c P ps)
    (hQ : ∀ code h' tk more, Heap.ExtBut P s.heap h' → s.heap.objs.size ≤ h'.objs.size → h'.IsCode c P (ps ++ more) → h'.TableAt c P (ps ++ more) → Q code { s with heap := h', toks := tk }) :
    wpAny M A (genexprCode e pos ql scope) Q E s := by
  cases hnf : codeAmong pos ps.toList with
  | none => exact wpAny_genexprCodeX hc hok htab hnf fun c' h' tk hx hge hlt hcode _ ht _ => hQ _ h' tk _ hx (Nat.le_trans hge (Nat.le_of_lt hlt)) hcode ht
  | some cv =>
    obtain ⟨o, vs, file, tf, flags, tg, inF, text, tt, op, ho, hd, h11, h2, h7, h9, h10, hop, hpd, htr, hne⟩ := id hok
    unfold genexprCode codeAt
    rw [hc, if_neg (show ¬ ((Value.ref c == Value.none) = true) from Bool.false_ne_true)]
    refine wpAny_bind (wpAny_fieldsOf ho hd ?_)
    rw [h11]
    refine wpAny_bind (wpAny_fieldsOf hop hpd ?_)
    rw [hnf]
    exact wpAny_pure (hQ cv s.heap s.toks #[] (Heap.ExtBut.refl _ _) (Nat.le_refl _) (by simpa using hok) (by simpa using htab))

/-- the base grows with the table -/
theorem Based.grows {h₁ g h h' : Heap} {c P : Addr} {ps more : Array Value} (B : Based h₁ g c P ps) (k : ∀ b o, g.get? b = some o → h.get? b = some o) (hx : Heap.ExtBut P h h') (hc' : h'.IsCode c P (ps ++ more)) (ht' : h'.TableAt c P (ps ++ more)) :
    ∃ g', Based h₁ g' c P (ps ++ more) ∧ ∀ b o, g'.get? b = some o → h'.get? b = some o := by
  have hcP : c ≠ P := by obtain ⟨_, _, _, _, _, _, _, _, _, _, _, _, _, _, _, _, _, _, _, _, x⟩ := B.code; exact x
  have self : (regrown g P (ps ++ more)).get? P = some { cls := .none, data := .fields (ps ++ more) } := Heap.get?_update_self _ B.tab.2 rfl
  have oth : ∀ b, b ≠ P → (regrown g P (ps ++ more)).get? b = g.get? b := fun b hb => Heap.get?_update_other _ _ (Ne.symm hb)
  have tab : (regrown g P (ps ++ more)).TableAt c P (ps ++ more) := let ⟨⟨o, vs, e, r⟩, _⟩ := B.tab; ⟨⟨o, vs, (oth c hcP).trans e, r⟩, self⟩
  have tri : TriplesOk (ps ++ more).toList := by
    obtain ⟨_, _, _, _, _, _, _, _, _, op, _, _, _, _, _, _, _, hop, hpd, htr, _⟩ := hc'
    exact htr
  have code : (regrown g P (ps ++ more)).IsCode c P (ps ++ more) := by
    obtain ⟨o, vs, file, tf, flags, tg, inF, text, tt, op, ho, r1, r2, r3, r4, r5, r6, _, _, _, r9⟩ := B.code
    exact ⟨o, vs, file, tf, flags, tg, inF, text, tt, _, (oth c hcP).trans ho, r1, r2, r3, r4, r5, r6, self, rfl, tri, r9⟩
  obtain ⟨ps₁, t₁⟩ := B.tab₁
  refine ⟨regrown g P (ps ++ more), ⟨B.old.step_table t₁ B.tab tab (fun b o hb e => (oth b hb).trans e) B.notStatics, ⟨(Heap.SameBut.update g P _).1.trans B.same.1, fun b hb => (oth b hb).trans (B.same.2 b hb)⟩, code, tab, ⟨ps₁, t₁⟩, B.notStatics⟩, fun b o e => ?_⟩
  by_cases hb : b = P
  · subst hb; rw [self] at e; cases e; exact ht'.2
  · rw [oth b hb] at e; exact hx b o hb (k b o e)

theorem passing_all (m : Nat) : passing (fun _ => true) m 0 = List.range m := by simp [passing]

/-- what a generator expression sees: its own name alone -/
structure GenEnvOk (scope : Scope) (env : Env) (x : Str) : Prop where
  clos : closureFor scope env = pure []
  cell : ∀ y ∈ scope.names, y.2 ≠ .cell
  dot : scope.names.lookup (".0" : Str) = some NameKind.local
  hx : scope.names.lookup x = some .local
  kind : scope.kind = .function
  co : scope.isCoroutine = false

theorem Gen_core {elt iter : Expr} {x : Str} {px pos : Pos} {scope : Scope} {ps : List PV} (C : CxOK cx) (hbm : ∃ bm ob, BMod cx.h₁ mainGlobals cx.mg bm ob) (hcode : env.code = .ref cx.c) (f : PV → Bool) (hit : EvIter cx false n env ρ ow iter ps) (H : GenEnvOk scope env x)
    (helt : ∀ C code, ∀ p ∈ ps, Ev cx true n (genEnv scope [] C code builtinsNs env) [(x, p)] none elt (.bool (f p))) (hs : ∀ x, genFold iter env x = pure x)
    {A : Around} {W : Addr → Prop} {E : Value → Shared → Prop} (hA : AOK (n + 1) A) (S : ES cx false W env ρ ow s) :
    wpAny (model cx.prog cx.w) A (eval (.GeneratorExp elt [⟨.Name x px, iter, [], 0⟩] scope pos) env) (fun v s' => Rel cx false s s' ∧ ∃ a fp wr g St, v = .ref a ∧
      WalksS cx.prog cx.w A.in4 a fp wr (GenOnlyQ g) ps.length (fun j y => ∃ p, ps[j]? = some p ∧ y = .bool (f p)) St ∧ St 0 s' ∧ ∀ b ∈ wr, s.heap.get? b = none) E s := by
  refine wpAny_GeneratorExp_walksQD hA.hh H.co H.clos H.cell H.dot H.hx H.kind hA.room (wpAny_mono (hit A s W E (hA.le (by omega)) S) (fun xv s₁ h₁ => wpAny_mono h₁ (fun it s₂ h₂ => ?_) fun _ _ e => e) fun _ _ e => e) hs
  obtain ⟨r2, I, fp, wr, P, St, X⟩ := h₂
  have S2 := S.rel r2
  obtain ⟨g, qs, B, kk⟩ := id S2.vs.ok.gi
  refine ⟨S2.vs.ok.gi.nolimit C, genexprCode_any hcode (B.code.keeps kk) (B.tab.keeps kk) fun code h₃ tk₃ more hx₃ hge hcode₃ htab₃ => ?_⟩
  obtain ⟨g', B', kk'⟩ := Based.grows B kk hx₃ hcode₃ htab₃
  have gi3 : GI cx h₃ := ⟨g', _, B', kk'⟩
  have r3 : Rel cx false s₂ { s₂ with heap := h₃, toks := tk₃ } := ⟨⟨_, _, _, rfl⟩, fun e => (nomatch e), fun b o hb e => hx₃ b o (hb.resolve_left (by decide)) e, fun _ => gi3, id⟩
  have hl₃ : h₃.NoLimit := gi3.nolimit C
  have r13 := r2.trans r3
  obtain ⟨bm, ob, M⟩ := hbm
  have hbP : bm ≠ cx.P := fun z => by have := C.base.tab.2; rw [← z, M.obj] at this; cases this; cases M.data
  have hst : St 0 h₃ := (X.walks A hA.hh).frame _ _ _ X.start fun b hb o e => hx₃ b o (fun z => by
    subst z
    rcases X.fpd _ hb with h | ⟨_, T, items, k, h⟩
    · exact S.vs.ok.neP h rfl
    · exact (solid_seq T items k).ne S.vs.ok.gi h rfl) e
  have hcw : cStatics ∉ wr := fun z => by
    have h0 := X.wrn _ z
    obtain ⟨mc, hn, _⟩ := S.vs.ok.gi.nolimit C
    obtain ⟨o, _, _, e, _⟩ := hn
    rw [h0] at e; cases e
  -- the base in a heap that keeps all but wr
  have gi_of : ∀ {h : Heap}, (∀ b o, b ∉ wr → h₃.get? b = some o → h.get? b = some o) → GI cx h := fun {h} hk => ⟨g', _, B', fun b o e => hk b o (fun z => by
    have hb := X.wrn b z
    have := base_none S.vs.ok hb
    rw [← B'.same.2 b (S.vs.ok.neP hb), e] at this; cases this) (kk' b o e)⟩
  refine wpAny_builtinsFor (m := cx.mg) (bm := bm) (o := ob) (S.globals ▸ gi3.ns C C.g) M.name M.ne (gi3.get M.obj hbP) M.cls M.dict M.data ?_
  refine ⟨I, fp, wr, ps.length, P, St, fun _ => true, fun i y => ∃ p, ps[i]? = some p ∧ y = .bool (f p), X.ref, X.walks, hst, fun b hb => ?_, hl₃, hcw, fun href hhref => ?_, fun a h₅ tk gs hgb hag hsz₅ hk₅ WW hat => ?_⟩
  · obtain ⟨o, e⟩ := (X.ex 0 _ hst).1 b hb
    exact Heap.lt_size e
  · refine ⟨fun A' E' i v t m₂ hh' _ _ hP hn hm hkp => wpAny_tests_nil ⟨rfl, t.heap, t.toks, rfl, fun _ _ e => e⟩, fun A' E' i v t m₂ hh' hd hu hP _ hn hm hkp => ?_⟩
    obtain ⟨p, hp, sr⟩ := X.item i v hP
    have hA' : AOK n A' := ⟨hh', by have := hA.depth; omega, by have := hA.units; omega⟩
    have keep : ∀ b o, b ∉ wr → h₃.get? b = some o → t.heap.get? b = some o := fun b o hb e => hkp b (List.mem_range.mpr (Heap.lt_size e)) hb o (hhref b o e)
    have ES' : ES cx true (fun _ => False) (genEnv scope [] h₃.objs.size code builtinsNs env) [(x, p)] none t := by
      refine ⟨⟨⟨gi_of keep, fun e => (nomatch e)⟩, fun b hb => hb.elim⟩, H.kind, S.globals, rfl, fun y p' e => ?_, fun y xs e => (nomatch e)⟩
      by_cases hy : y = x
      · subst hy
        rw [lookup_cons_eq] at e; cases e
        exact ⟨v, .inl ⟨H.hx, m₂, hn, hm⟩, sr.2 _ _⟩
      · rw [lookup_cons_ne hy] at e; cases e
    refine wpAny_mono (helt _ _ p (List.mem_of_getElem? hp) A' t _ E' hA' ES') (fun y s₄ h₄ => ?_) fun _ _ e => e
    obtain ⟨r4, k4⟩ := h₄
    cases k4
    exact ⟨⟨p, hp, rfl⟩, r4.keeps⟩
  · rw [passing_all] at WW
    have hP' : ∀ (j : Nat) (y : Value), (∃ i : Nat, (List.range ps.length)[j]? = some i ∧ ∃ p, ps[i]? = some p ∧ y = Value.bool (f p)) → ∃ p, ps[j]? = some p ∧ y = .bool (f p) := fun j y ⟨i, hi, h⟩ => by
      have := List.getElem?_eq_some_iff.mp hi
      obtain ⟨hj, e⟩ := this
      simp at e; subst e; exact h
    have W' : WalksS cx.prog cx.w A.in4 a _ _ _ (List.range ps.length).length (fun j y => ∃ p, ps[j]? = some p ∧ y = .bool (f p)) _ :=
      ⟨WW.sub, WW.grefl, WW.gtrans, WW.frame, fun i s Q E hi st hQ => WW.item i s Q E hi st fun v s' hv => hQ v s' (hP' i v hv), WW.done, WW.self⟩
    have r5 : Rel cx false { s₂ with heap := h₃, toks := tk₃ } { s₂ with heap := h₅, toks := tk, gens := s₂.gens.push gs } := by
      refine ⟨⟨_, _, _, rfl⟩, fun e => (nomatch e), fun b o _ e => hk₅ b o e, fun _ => gi3.keeps hk₅, fun x => x.push hgb⟩
    refine ⟨r13.trans r5, a, _, _, _, _, rfl, by simpa using W', hat, fun b hb => ?_⟩
    rcases List.mem_cons.mp hb with rfl | hb
    · exact r13.back S.vs.ok (none_of_le (Nat.le_refl _))
    · exact X.wrn b hb

theorem moved_rel {s₅ s' : Shared} {wr : List Addr} {g : Nat} (k : SOK cx false s) (r : Rel cx false s s₅) (hw : ∀ b ∈ wr, s.heap.get? b = none) (hm : Moved wr (GenOnlyQ g) s₅ s') : Rel cx false s s' := by
  refine ⟨?_, fun e => (nomatch e), fun b o hb e => hm.heap b o (fun z => by rw [hw b z] at e; cases e) (r.keep b o hb e), fun gi => ?_, fun x => hm.gens.bare (r.bare x)⟩
  · obtain ⟨h₅, tk, gs, rfl⟩ := r.rest
    obtain ⟨h', gs', dr, tk', os'⟩ := s'
    have h1 := hm.drawn
    have h2 := hm.os
    simp only at h1 h2
    subst h1 h2
    exact ⟨_, _, _, rfl⟩
  · obtain ⟨g', ps, B, kk⟩ := r.gi gi
    refine ⟨g', ps, B, fun b o e => hm.heap b o (fun z => ?_) (kk b o e)⟩
    have hb := hw b z
    have := base_none k hb
    rw [← B.same.2 b (k.neP hb), e] at this; cases this

theorem any_range {ps : List PV} (f : PV → Bool) : (List.range ps.length).any (fun j => match ps[j]? with | some p => f p | none => false) = ps.any f := by
  apply Bool.eq_iff_iff.mpr
  simp only [List.any_eq_true, List.mem_range]
  constructor
  · rintro ⟨j, hj, h⟩
    rw [List.getElem?_eq_getElem hj] at h
    exact ⟨_, List.getElem_mem hj, h⟩
  · rintro ⟨p, hp, h⟩
    obtain ⟨j, hj, rfl⟩ := List.mem_iff_getElem.mp hp
    exact ⟨j, hj, by rw [List.getElem?_eq_getElem hj]; exact h⟩
theorem all_range {ps : List PV} (f : PV → Bool) : (List.range ps.length).all (fun j => match ps[j]? with | some p => f p | none => false) = ps.all f := by
  apply Bool.eq_iff_iff.mpr
  simp only [List.all_eq_true, List.mem_range]
  constructor
  · intro h p hp
    obtain ⟨j, hj, rfl⟩ := List.mem_iff_getElem.mp hp
    have := h j hj
    rw [List.getElem?_eq_getElem hj] at this; exact this
  · intro h j hj
    rw [List.getElem?_eq_getElem hj]; exact h _ (List.getElem_mem hj)

theorem truth_gen {A : Around} {ps : List PV} (f : PV → Bool) : TruthOf cx.prog cx.w A (fun j y => ∃ p, ps[j]? = some p ∧ y = .bool (f p)) (fun j => match ps[j]? with | some p => f p | none => false) := by
  rintro i v t Q E ⟨p, hp, rfl⟩ hQ
  refine wpAny_truthy_bool ?_
  simpa only [hp] using hQ

theorem Ev_any {nm : Str} {xp gpos pos : Pos} {elt iter : Expr} {x : Str} {px : Pos} {scope : Scope} {ps : List PV} (C : CxOK cx) (hbm : ∃ bm ob, BMod cx.h₁ mainGlobals cx.mg bm ob) (hcode : env.code = .ref cx.c) (f : PV → Bool) (hit : EvIter cx false n env ρ ow iter ps) (H : GenEnvOk scope env x)
    (helt : ∀ C code, ∀ p ∈ ps, Ev cx true n (genEnv scope [] C code builtinsNs env) [(x, p)] none elt (.bool (f p)))
    (hnk : env.kindOf nm = some .globalImplicit) (hm : cx.mg nm = none) (hb : bootBuiltins nm = some (.builtin "any")) (hs : ∀ x, genFold iter env x = pure x := by intro _; rfl)
    (hd : (nm == ("__debug__" : Str)) = false := by rfl) (hn : nm ≠ "__name__" := by decide) :
    Ev cx false (n + 1) env ρ ow (.Call (.Name nm xp) [.GeneratorExp elt [⟨.Name x px, iter, [], 0⟩] scope gpos] [] pos) (.bool (ps.any f)) := fun A s W E hA S => by
  rw [eval_Call_name]
  refine wpAny_bind (eval_builtin C S hnk hm hb ?_ hd hn)
  refine callWith_builtin (by rfl) ?_
  refine evalArgs_plain (wpAny_items_cons (wpAny_mono (Gen_core C hbm hcode f hit H helt hs hA S) (fun v s₁ h₁ => wpAny_items_nil ?_) fun _ _ e => e) (by rfl))
  obtain ⟨r1, a, fp, wr, g, St, rfl, WW, hst, hw⟩ := h₁
  have WW := WW.in4_1
  refine call_any_walkS (WW.self 0 _ _ _ hst ⟨a, _, _, _, _, _, _, _, rfl, WW, hst, truth_gen f, fun s' hmv => ?_⟩)
  rw [any_range]
  exact ⟨moved_rel S.vs.ok r1 hw hmv, .bool _⟩

theorem Ev_all {nm : Str} {xp gpos pos : Pos} {elt iter : Expr} {x : Str} {px : Pos} {scope : Scope} {ps : List PV} (C : CxOK cx) (hbm : ∃ bm ob, BMod cx.h₁ mainGlobals cx.mg bm ob) (hcode : env.code = .ref cx.c) (f : PV → Bool) (hit : EvIter cx false n env ρ ow iter ps) (H : GenEnvOk scope env x)
    (helt : ∀ C code, ∀ p ∈ ps, Ev cx true n (genEnv scope [] C code builtinsNs env) [(x, p)] none elt (.bool (f p)))
    (hnk : env.kindOf nm = some .globalImplicit) (hm : cx.mg nm = none) (hb : bootBuiltins nm = some (.builtin "all")) (hs : ∀ x, genFold iter env x = pure x := by intro _; rfl)
    (hd : (nm == ("__debug__" : Str)) = false := by rfl) (hn : nm ≠ "__name__" := by decide) :
    Ev cx false (n + 1) env ρ ow (.Call (.Name nm xp) [.GeneratorExp elt [⟨.Name x px, iter, [], 0⟩] scope gpos] [] pos) (.bool (ps.all f)) := fun A s W E hA S => by
  rw [eval_Call_name]
  refine wpAny_bind (eval_builtin C S hnk hm hb ?_ hd hn)
  refine callWith_builtin (by rfl) ?_
  refine evalArgs_plain (wpAny_items_cons (wpAny_mono (Gen_core C hbm hcode f hit H helt hs hA S) (fun v s₁ h₁ => wpAny_items_nil ?_) fun _ _ e => e) (by rfl))
  obtain ⟨r1, a, fp, wr, g, St, rfl, WW, hst, hw⟩ := h₁
  have WW := WW.in4_1
  refine call_all_walkS (WW.self 0 _ _ _ hst ⟨a, _, _, _, _, _, _, _, rfl, WW, hst, truth_gen f, fun s' hmv => ?_⟩)
  rw [all_range]
  exact ⟨moved_rel S.vs.ok r1 hw hmv, .bool _⟩
end Mine

namespace Mine
abbrev pw : Program := PySem.Challenge.pw_oo0009_01
end Mine

namespace Mine
variable {cx : Cx} {q : Bool} {n : Nat}

def defIn (f : Str) : Stmt → Option (Arguments × List Stmt × Scope)
  | .FunctionDef nm args body _ _ _ sc _ _ _ => if nm == f then some (args, body, sc) else none
  | _ => none
def theDef (p : Program) (f : Str) : Arguments × List Stmt × Scope := (p.main.body.findSome? (defIn f)).getD (⟨[], [], none, [], [], none, []⟩, [], default)
abbrev fdOf (f : Str) (pm cd doc : Value) : FuncData := docDef f (theDef pw f).1 (theDef pw f).2.1 (theDef pw f).2.2 pm cd doc
abbrev bodyOf (f : Str) : List Stmt := (theDef pw f).2.1

/-- where all the walks stand -/
structure Base (cx : Cx) (plain : List Str) : Prop where
  ok : CxOK cx
  bm : ∃ bm ob, BMod cx.h₁ mainGlobals cx.mg bm ob
  fn : ∀ f ∈ plain, ∃ a pm cd doc, FnAt cx f a (fdOf f pm cd doc)
  dec : ∃ a pm doc, FnAt cx "bech32_decode" a (fdOf "bech32_decode" pm (.ref cx.c) doc)
  conv : ∃ a pm cd doc T tn, FnAt cx "convertbits" a { fdOf "convertbits" pm cd doc with defaults := .ref T } ∧ cx.h₁.get? T = some (seqObj "tuple" #[.bool true] tn)
  charset : ∃ t, cx.mg "CHARSET" = some (.str "qpzry9x8gf2tvdw0s3jn54khce6mua7l" t)
  nob : ∀ x ∈ (["ord", "range", "list", "len", "any", "all", "chr", "abs"] : List Str), cx.mg x = none

theorem Fn_introB {f : Str} {a : Addr} {fd : FuncData} {body : List Stmt} {names : List Str} {ps eps : List PV} {ex : List Value} {p : PV} (C : CxOK cx) (H : FnAt cx f a fd) (hbody : fd.body = .stmts body) (hclo : fd.closure = []) (hlen : names.length = ps.length + eps.length) (hex : ∀ W h, RepAll W h ex eps)
    (hbind : ∀ (s : Shared) (vs : List Value), GI cx s.heap → vs.length = ps.length → BindsTo s fd ⟨vs, []⟩ (names.zip (vs ++ ex))) (hnd : names.Nodup)
    (hkind : ∀ x ∈ names, fd.scope.names.lookup x = some .local ∨ (fd.scope.names.lookup x = some .cell ∧ ∀ k, ((cellsFrom k fd.scope.names []).lookup x).isSome = true))
    (hcn : ((fd.scope.names.filter fun x => x.2 == .cell).map (·.1)).Nodup) (hgl : fd.globals = mainGlobals) (hbi : fd.builtins = builtinsNs)
    (hco : fd.scope.isCoroutine = false) (hgen : fd.scope.isGenerator = false) (hk : fd.scope.kind = .function)
    (hR : ∀ L, Runs cx q n (callEnvC fd L a) (names.zip (ps ++ eps)) none body (Gives p)) : Fn cx q n f ps p := by
  refine ⟨a, fd, H, fun A s W vs E hA V r => ?_⟩
  obtain ⟨o, ho, hd⟩ := H.get C V.ok.gi
  have rx : RepAll W s.heap (vs ++ ex) (ps ++ eps) := r.append (hex _ _)
  have hvs : (vs ++ ex).length = names.length := by rw [rx.length, hlen, List.length_append]
  have hzn : (names.zip (vs ++ ex)).map (·.1) = names := by
    rw [List.map_fst_zip (by omega)]
  have hmem : ∀ x ∈ names.zip (vs ++ ex), x.1 ∈ names := fun x hx => by rw [← hzn]; exact List.mem_map.mpr ⟨x, hx, rfl⟩
  refine wpAny_call (codeAny_call_function hA.room ho hd hco hgen hbody (H.codeRec C V.ok.gi) (hbind s vs V.ok.gi r.length _ _ _ _ ?_))
  rw [hclo]
  refine wpAny_newFunctionEnv_cells hk (fun x hx => (hkind x.1 (hmem x hx)).imp id fun y => ⟨y.1, y.2 _⟩) fun env he s₁ X => ?_
  subst he
  refine ⟨(V.ok.gi.nolimit C).keeps X.toInCall.keep, codeAny_func ?_⟩
  obtain ⟨h₁, tk, rfl, hkeep⟩ := X.done
  have R : Rel cx q s { s with heap := h₁, toks := tk } := .of_keeps ⟨h₁, tk, rfl, hkeep⟩
  have hcells : ((callEnvC fd s.heap.objs.size a).cells.map (·.1)).Nodup := by
    show ((cellsFrom (s.heap.objs.size + 1) fd.scope.names []).map (·.1)).Nodup
    rw [cellsFrom_names, List.map_nil, List.append_nil]; exact List.pairwise_reverse.mpr (hcn.imp fun h => Ne.symm h)
  have F : FS cx q s W (callEnvC fd s.heap.objs.size a) (names.zip (ps ++ eps)) none none { s with heap := h₁, toks := tk } := by
    refine ⟨V.ok, R, V.prot, hk, hgl, hbi, X.toInCall.fresh, ⟨_, X.toInCall.ns⟩, ⟨fun nm c e => ⟨_, X.cell nm c (lookup_of_mem hcells e)⟩, X.apart, X.above⟩, fun x p' e => ?_, fun a e => (nomatch e), fun e => (nomatch e)⟩
    obtain ⟨v, hv, rv⟩ := zip_rep rx e
    have hxn : x ∈ names := by
      have := mem_of_lookup hv
      exact hmem _ this
    refine ⟨v, ?_, (R.rep V.ok rv).weak fun b o _ w z => z.elim w fun z => (nomatch z)⟩
    rcases hkind x hxn with hl | ⟨hl, hc⟩
    · exact .inl ⟨hl, _, X.toInCall.ns, bindL_of _ _ _ _ (by rw [hzn]; exact hnd) hv hl⟩
    · obtain ⟨c, hc'⟩ := Option.isSome_iff_exists.mp (hc (s.heap.objs.size + 1))
      have := X.cell x c hc'
      rw [bindC_of _ _ _ _ (by rw [hzn]; exact hnd) hv hl] at this
      exact .inr ⟨.inl hl, c, hc', this⟩
  refine wpAny_mono (hR s.heap.objs.size _ _ s W none _ (hA.deeper _) F) (fun fl s' h => ?_) fun _ _ e => e
  cases fl with
  | next =>
    obtain ⟨ρ', ow', oa', g, F', _⟩ := h
    have : p = .none := g
    subst this
    exact ⟨F'.rel, .none⟩
  | ret v =>
    obtain ⟨p', g, r', rr, _⟩ := h
    have : p' = p := g
    subst this
    exact ⟨r', rr⟩
  | brk => exact h.elim
  | cont => exact h.elim


/-- the scope and the arguments of a def are plain ones -/
structure Plain (f : Str) (names : List Str) : Prop where
  bind : ∀ pm cd doc (vs : List Value), vs.length = names.length → bindArgs (fdOf f pm cd doc) ⟨vs, []⟩ = pure (names.zip vs)
  nd : names.Nodup
  kind : ∀ x ∈ names, (theDef pw f).2.2.names.lookup x = some .local ∨ ((theDef pw f).2.2.names.lookup x = some .cell ∧ ∀ k, ((cellsFrom k (theDef pw f).2.2.names []).lookup x).isSome = true)
  cn : (((theDef pw f).2.2.names.filter fun x => x.2 == .cell).map (·.1)).Nodup
  co : (theDef pw f).2.2.isCoroutine = false
  gen : (theDef pw f).2.2.isGenerator = false
  sk : (theDef pw f).2.2.kind = .function

theorem Fn_def {plain : List Str} {f : Str} {names : List Str} {ps : List PV} {p : PV} (B : Base cx plain) (hf : f ∈ plain) (S : Plain f names) (hlen : names.length = ps.length)
    (hR : ∀ L a pm cd doc, Runs cx q n (callEnvC (fdOf f pm cd doc) L a) (names.zip ps) none (bodyOf f) (Gives p)) : Fn cx q n f ps p := by
  obtain ⟨a, pm, cd, doc, H⟩ := B.fn f hf
  exact Fn_intro B.ok H rfl rfl hlen (S.bind pm cd doc) S.nd S.kind S.cn rfl rfl S.co S.gen S.sk fun L => hR L a pm cd doc
theorem Fn_dec {plain : List Str} {names : List Str} {ps : List PV} {p : PV} (B : Base cx plain) (S : Plain "bech32_decode" names) (hlen : names.length = ps.length)
    (hR : ∀ L a pm doc, Runs cx q n (callEnvC (fdOf "bech32_decode" pm (.ref cx.c) doc) L a) (names.zip ps) none (bodyOf "bech32_decode") (Gives p)) : Fn cx q n "bech32_decode" ps p := by
  obtain ⟨a, pm, doc, H⟩ := B.dec
  exact Fn_intro B.ok H rfl rfl hlen (S.bind pm _ doc) S.nd S.kind S.cn rfl rfl S.co S.gen S.sk fun L => hR L a pm doc
end Mine

namespace Mine
variable {cx : Cx} {q : Bool} {n : Nat} {env : Env} {plain : List Str}

/-- these names hold these -/
def Has (ρ l : Ctxt) : Prop := ∀ x p, l.lookup x = some p → ρ.lookup x = some p
theorem Has.refl (ρ : Ctxt) : Has ρ ρ := fun _ _ => id
theorem Has.cons {ρ l : Ctxt} {x : Str} {p : PV} (h : Has ρ l) : Has ((x, p) :: ρ) ((x, p) :: l) := fun y r e => by
  by_cases hy : y = x
  · subst hy; rw [lookup_cons_eq] at e ⊢; exact e
  · rw [lookup_cons_ne hy] at e ⊢; exact h _ _ e
theorem Has_nil {ρ : Ctxt} : Has ρ [] := fun _ _ e => by cases e
theorem Has_cons {ρ l : Ctxt} {x : Str} {p : PV} (h : ρ.lookup x = some p) (hs : Has ρ l) : Has ρ ((x, p) :: l) := fun y r e => by
  by_cases hy : y = x
  · subst hy; rw [lookup_cons_eq] at e; exact h.trans e
  · rw [lookup_cons_ne hy] at e; exact hs _ _ e

local macro_rules | `(tactic| walk_at "has") => `(tactic| (repeat' first | exact Has_nil | refine Has_cons rfl ?_))

abbrev natl (l : List Nat) : PV := .list (l.map PV.nat)
theorem natl_scalar {l : List Nat} : ∀ p ∈ l.map PV.nat, p.scalar = true := fun p h => by
  obtain ⟨a, _, rfl⟩ := List.mem_map.mp h; rfl

/-- polymod -/
def gensN : List Nat := [996825010, 642813549, 513874426, 1027748829, 705979059]
def gx (top i : Nat) : Nat := if ((top >>> i) &&& 1) != 0 then gensN.getD i 0 else 0
def inN (top : Nat) : Nat → Nat → Nat
  | 0, c => c
  | k + 1, c => inN top k c ^^^ gx top k
def stepN (chk v : Nat) : Nat := inN (chk >>> 25) 5 (((chk &&& 33554431) <<< 5) ^^^ v)
def polyN (vs : List Nat) : Nat := vs.foldl stepN 1

theorem polyN_snoc (vs : List Nat) (v : Nat) : polyN (vs ++ [v]) = stepN (polyN vs) v := by simp [polyN]

theorem polymod_plain : Plain "bech32_polymod" ["values"] where
  bind := fun pm cd doc vs h => by
    match vs, h with
    | [a], _ => rfl
  nd := by decide
  kind := fun x hx => by
    simp only [List.mem_cons, List.not_mem_nil, or_false] at hx
    subst hx; exact .inl rfl
  cn := by decide
  co := rfl
  gen := rfl
  sk := rfl

theorem nat_get {l : List Nat} {i : Nat} {p : PV} (h : (l.map PV.nat)[i]? = some p) : ∃ v, l[i]? = some v ∧ p = .nat v := by
  rw [List.getElem?_map] at h
  cases e : l[i]? with
  | none => rw [e] at h; cases h
  | some v => rw [e] at h; cases h; exact ⟨v, rfl, rfl⟩
theorem range_get {m i : Nat} {p : PV} (h : ((List.range m).map fun i => PV.int (i : Nat))[i]? = some p) : i < m ∧ p = .nat i := by
  rw [List.getElem?_map] at h
  cases e : (List.range m)[i]? with
  | none => rw [e] at h; cases h
  | some v =>
    rw [e] at h; cases h
    obtain ⟨h1, h2⟩ := List.getElem?_eq_some_iff.mp e
    simp at h1 h2
    subst h2
    exact ⟨h1, rfl⟩
theorem take_snoc {α : Type} {l : List α} {i : Nat} {v : α} (h : l[i]? = some v) : l.take (i + 1) = l.take i ++ [v] := by
  rw [List.take_add_one, h]; rfl

theorem Fn_polymod (B : Base cx plain) (hf : ("bech32_polymod" : Str) ∈ plain) (vs : List Nat) (hlt : vs.length ≤ 10000) : Fn cx q n "bech32_polymod" [natl vs] (.nat (polyN vs)) := by
  refine Fn_def B hf polymod_plain rfl fun L a pm cd doc => ?_
  refine Runs_cons (Run1_assign (p := natl gensN) (Ev_list (EvAll_cons (Ev_nat _) (EvAll_cons (Ev_nat _) (EvAll_cons (Ev_nat _) (EvAll_cons (Ev_nat _) (EvAll_cons (Ev_nat _) EvAll_nil)))))) (.inl rfl) ?_)
  refine Runs_cons (Run1_assign (p := .nat 1) (Ev_nat 1) (.inl rfl) ?_)
  refine Runs_cons (Run1_for (fun i ρ ow => ow = none ∧ Has ρ [("chk", .nat (polyN (vs.take i))), ("generator", natl gensN)]) (EvIter_list (Ev_name rfl) natl_scalar) (.inl rfl) ⟨rfl, by walk_at "has"⟩ ?_ ?_ ?_)
  · rintro i p ρ ow hp ⟨rfl, hH⟩
    obtain ⟨v, hv, rfl⟩ := nat_get hp
    refine Runs_weak hH.cons ?_
    rw [take_snoc hv, polyN_snoc]
    generalize polyN (vs.take i) = c
    refine Runs_cons (Run1_assign (p := .nat (c >>> 25)) (Ev_binop (Ev_name rfl) (Ev_nat 25) op_shrN) (.inl rfl) ?_)
    refine Runs_cons (Run1_assign (p := .nat (((c &&& 33554431) <<< 5) ^^^ v)) (Ev_binop (Ev_binop (Ev_binop (Ev_name rfl) (Ev_nat 33554431) op_andN) (Ev_nat 5) (op_shlN (by decide) ?_)) (Ev_name rfl) op_xorN) (.inl rfl) ?_)
    · exact Nat.lt_of_le_of_lt Nat.and_le_right (by decide)
    refine Runs_cons (Run1_for (fun i ρ ow => ow = none ∧ Has ρ [("chk", .nat (inN (c >>> 25) i (((c &&& 33554431) <<< 5) ^^^ v))), ("generator", natl gensN), ("top", .nat (c >>> 25))])
      (EvIter_range B.ok rfl (B.nob _ (by decide)) rfl (Ev_nat 5) rfl (by decide)) (.inl rfl) ⟨rfl, by walk_at "has"⟩ ?_ ?_ ?_)
    · rintro j p ρ' ow hp ⟨rfl, hH⟩
      obtain ⟨hj, rfl⟩ := range_get hp
      refine Runs_weak hH.cons ?_
      refine Runs_cons (Run1_aug (c := .nat (inN (c >>> 25) (j + 1) (((c &&& 33554431) <<< 5) ^^^ v))) rfl (Ev_if (p := .nat (gx (c >>> 25) j)) (EvT_value (Ev_binop (Ev_binop (Ev_name rfl) (Ev_name rfl) op_shrN) (Ev_nat 1) op_andN) (tru_nat _)) ?_ ?_) op_ixorN (.inl rfl) ?_)
      · intro hb
        refine Ev_item_list (Ev_name rfl).r (Ev_name rfl) (by omega) ?_ (by decide) rfl
        have : gx (c >>> 25) j = gensN.getD j 0 := by rw [gx, if_pos hb]
        rw [this]
        match j, hj with
        | 0, _ | 1, _ | 2, _ | 3, _ | 4, _ => rfl
      · intro hb
        have : gx (c >>> 25) j = 0 := by rw [gx, hb]; rfl
        rw [this]
        exact Ev_nat 0
      · exact Runs_nil ⟨rfl, by walk_at "has"⟩
    · rintro ρ' ow ⟨rfl, hH⟩
      refine Runs_nil ⟨rfl, Has_cons ?_ (Has_cons ?_ Has_nil)⟩
      · exact hH _ _ rfl
      · exact hH _ _ rfl
    · rintro i ρ ow ⟨rfl, _⟩ y xs h; cases h
  · rintro ρ ow ⟨rfl, hH⟩
    refine Runs_weak hH (Runs_cons (Run1_return (Ev_name rfl) ?_))
    simp [Gives]
  · rintro i ρ ow ⟨rfl, _⟩ y xs h; cases h
end Mine

namespace Mine
variable {cx : Cx} {q : Bool} {n : Nat} {env : Env} {plain : List Str} {ρ : Ctxt} {ow : Option (Str × List PV)}

noncomputable def through {α : Type} (l : List α) (g f : α → PV) (p : PV) : PV := by
  classical exact if h : ∃ a, a ∈ l ∧ g a = p then f h.choose else .none
theorem through_at {α : Type} {l : List α} {g f : α → PV} (hg : ∀ a ∈ l, ∀ b ∈ l, g a = g b → f a = f b) {a : α} (ha : a ∈ l) : through l g f (g a) = f a := by
  have h : ∃ b, b ∈ l ∧ g b = g a := ⟨a, ha, rfl⟩
  unfold through
  rw [dif_pos h]
  exact hg _ h.choose_spec.1 _ ha h.choose_spec.2
theorem through_map {α : Type} {l : List α} {g f : α → PV} (hg : ∀ a ∈ l, ∀ b ∈ l, g a = g b → f a = f b) : (l.map g).map (through l g f) = l.map f := by
  rw [List.map_map]
  exact List.map_congr_left fun a ha => through_at hg ha

theorem Ev_compL {elt iter : Expr} {x : Str} {px pos : Pos} {scope : Scope} {cl : List (Str × Addr)} {ρc : Ctxt} {α : Type} {l : List α} {g f : α → PV} (hit : EvIter cx q n env ρ ow iter (l.map g)) (H : CompEnv scope env cl ρ ρc x) (hsz : l.length ≤ 100000)
    (helt : ∀ C, ∀ a ∈ l, Ev cx true n (compEnvC scope cl C env) ((x, g a) :: ρc) none elt (f a)) (hsc : ∀ a ∈ l, (f a).scalar = true) (hg : ∀ a b, g a = g b → a = b) (hs : ∀ x, foldedSetIterable iter env x = pure x := by intro _; rfl) :
    Ev cx q n env ρ ow (.ListComp elt [⟨.Name x px, iter, [], 0⟩] scope pos) (.list (l.map f)) := by
  have hg' : ∀ a ∈ l, ∀ b ∈ l, g a = g b → f a = f b := fun a _ b _ h => by rw [hg a b h]
  rw [← through_map hg']
  refine Ev_comp _ hit H (by simpa using hsz) (fun C p hp => ?_) (fun p hp => ?_) hs
  all_goals
    obtain ⟨a, ha, rfl⟩ := List.mem_map.mp hp
    rw [through_at hg' ha]
  · exact helt C a ha
  · exact hsc a ha
theorem Run1_assign_compL {elt iter : Expr} {x y : Str} {px py cpos pos : Pos} {scope : Scope} {cl : List (Str × Addr)} {ρc : Ctxt} {Φ : Out → Prop} {α : Type} {l : List α} {g f : α → PV} (hit : EvIter cx q n env ρ ow iter (l.map g)) (H : CompEnv scope env cl ρ ρc x) (hsz : l.length ≤ 100000)
    (helt : ∀ C, ∀ a ∈ l, Ev cx true n (compEnvC scope cl C env) ((x, g a) :: ρc) none elt (f a)) (hsc : ∀ a ∈ l, (f a).scalar = true) (hg : ∀ a b, g a = g b → a = b) (hy : env.kindOf y = some .local) (hΦ : Φ (.next ((y, .list (l.map f)) :: ρ) ow)) (hox : ∀ z xs, ow = some (z, xs) → z ≠ y := by intro _ _ h; cases h)
    (hsw : swapsWith (.ListComp elt [⟨.Name x px, iter, [], 0⟩] scope cpos) (some (.Name y py)) pos.line env = pure true := by rfl) (hs : ∀ x, foldedSetIterable iter env x = pure x := by intro _; rfl) :
    Run1 cx q n env ρ ow (.Assign [.Name y py] (.ListComp elt [⟨.Name x px, iter, [], 0⟩] scope cpos) pos) Φ := by
  have hg' : ∀ a ∈ l, ∀ b ∈ l, g a = g b → f a = f b := fun a _ b _ h => by rw [hg a b h]
  rw [← through_map hg'] at hΦ
  refine Run1_assign_comp _ hit H (by simpa using hsz) (fun C p hp => ?_) (fun p hp => ?_) hy hΦ hox hsw hs
  all_goals
    obtain ⟨a, ha, rfl⟩ := List.mem_map.mp hp
    rw [through_at hg' ha]
  · exact helt C a ha
  · exact hsc a ha

/-- texts as lists of signs -/
abbrev strN (l : List Nat) : PV := .str (sN l)
abbrev oneN (c : Nat) : PV := .str ⟨#[c]⟩
theorem oneN_inj (a b : Nat) (h : oneN a = oneN b) : a = b := by simpa using h
theorem natP_inj (a b : Nat) (h : PV.nat a = PV.nat b) : a = b := by injection h with h; omega
theorem EvIter_strN {iter : Expr} {l : List Nat} (h : Ev cx q n env ρ ow iter (strN l)) : EvIter cx q n env ρ ow iter (l.map oneN) := EvIter_str h

theorem Ev_ord {e : Expr} {xp pos : Pos} {c : Nat} (B : Base cx plain) (h : Ev cx q n env ρ ow e (oneN c)) (hk : env.kindOf "ord" = some .globalImplicit := by rfl)
    (he : ∀ env, starEach [e] env = (false, eval e env) :: starEach [] env := by intro _; rfl) (hplain : ∀ pos env, (backTo pos (starEach [e] env)).any (·.1) = false := by intro _ _; rfl) :
    Ev cx q n env ρ ow (.Call (.Name "ord" xp) [e] [] pos) (.nat c) :=
  Ev_call_builtin B.ok hk (B.nob _ (by decide)) rfl (EvAll_cons h EvAll_nil he) op_ord he hplain

def expandN (hrp : List Nat) : List Nat := hrp.map (· >>> 5) ++ [0] ++ hrp.map (· &&& 31)

theorem expand_plain : Plain "bech32_hrp_expand" ["hrp"] where
  bind := fun pm cd doc vs h => by
    match vs, h with
    | [a], _ => rfl
  nd := by decide
  kind := fun x hx => by
    simp only [List.mem_cons, List.not_mem_nil, or_false] at hx
    subst hx; exact .inl rfl
  cn := by decide
  co := rfl
  gen := rfl
  sk := rfl

theorem Fn_expand (B : Base cx plain) (hf : ("bech32_hrp_expand" : Str) ∈ plain) (hrp : List Nat) (hlt : hrp.length ≤ 1000) : Fn cx q n "bech32_hrp_expand" [strN hrp] (natl (expandN hrp)) := by
  refine Fn_def B hf expand_plain rfl fun L a pm cd doc => ?_
  have key : ∀ (f : Nat → Nat), (hrp.map fun c => PV.nat (f c)) = (hrp.map f).map PV.nat := fun f => by simp
  refine Runs_cons (Run1_return (p := natl (expandN hrp)) ?_ rfl)
  have e : natl (expandN hrp) = .list ((hrp.map fun c => PV.nat (c >>> 5)) ++ [.nat 0] ++ (hrp.map fun c => PV.nat (c &&& 31))) := by simp [expandN, Function.comp_def]
  rw [e]
  refine Ev_binop (Ev_binop ?_ (Ev_list (EvAll_cons (Ev_nat 0) EvAll_nil)) (op_add_list ?_)) ?_ (op_add_list ?_)
  · refine Ev_compL (ρc := []) (cl := []) (EvIter_strN (Ev_name rfl)) ?_ (by omega) (fun C a ha => Ev_binop (Ev_ord B (Ev_name rfl)) (Ev_nat 5) op_shrN) (fun _ _ => rfl) oneN_inj
    exact ⟨rfl, by decide, rfl, by decide, rfl, fun e he => by cases he⟩
  · simp; omega
  · refine Ev_compL (ρc := []) (cl := []) (EvIter_strN (Ev_name rfl)) ?_ (by omega) (fun C a ha => Ev_binop (Ev_ord B (Ev_name rfl)) (Ev_nat 31) op_andN) (fun _ _ => rfl) oneN_inj
    exact ⟨rfl, by decide, rfl, by decide, rfl, fun e he => by cases he⟩
  · simp; omega
end Mine

namespace Mine
variable {cx : Cx} {q : Bool} {n : Nat} {env : Env} {plain : List Str} {ρ : Ctxt} {ow : Option (Str × List PV)}

theorem verify_plain : Plain "bech32_verify_checksum" ["hrp", "data"] where
  bind := fun pm cd doc vs h => by
    match vs, h with
    | [a, b], _ => rfl
  nd := by decide
  kind := fun x hx => by
    simp only [List.mem_cons, List.not_mem_nil, or_false] at hx
    rcases hx with rfl | rfl <;> exact .inl rfl
  cn := by decide
  co := rfl
  gen := rfl
  sk := rfl

theorem expandN_length (hrp : List Nat) : (expandN hrp).length = 2 * hrp.length + 1 := by simp [expandN]; omega

theorem natl_append (a b : List Nat) : PV.list (a.map PV.nat ++ b.map PV.nat) = natl (a ++ b) := by simp

theorem op_add_natl {a b : List Nat} (h : a.length + b.length ≤ 10000) : Op cx q n (bop .Add) [natl a, natl b] (natl (a ++ b)) := (op_add_list (by simpa using h)).to (by simp)
/-- bech32_hrp_expand(hrp) + list(data) -/
theorem Ev_values {hrp data : List Nat} {ep dp : Expr} {xp xp' pos pos' pos'' : Pos} (B : Base cx plain) (hf : ("bech32_hrp_expand" : Str) ∈ plain) (h1 : Ev cx q (n + 1) env ρ ow ep (strN hrp)) (h2 : Ev cx q (n + 1) env ρ ow dp (natl data)) (hl : hrp.length ≤ 1000) (hd : data.length ≤ 1000)
    (hk : env.kindOf "bech32_hrp_expand" = some .globalImplicit := by rfl) (hk' : env.kindOf "list" = some .globalImplicit := by rfl)
    (he : ∀ env, starEach [ep] env = [(false, eval ep env)] := by intro _; rfl) (he' : ∀ env, starEach [dp] env = [(false, eval dp env)] := by intro _; rfl) :
    Ev cx q (n + 1) env ρ ow (.BinOp (.Call (.Name "bech32_hrp_expand" xp) [ep] [] pos) .Add (.Call (.Name "list" xp') [dp] [] pos') pos'') (natl (expandN hrp ++ data)) := by
  refine Ev_binop (Ev_call B.ok (Fn_expand B hf hrp hl) hk (EvAll_cons h1 EvAll_nil he) he) (Ev_list_of B.ok hk' (B.nob _ (by decide)) rfl h2 (by simpa using (by omega : data.length ≤ 100000)) he') (op_add_natl ?_)
  have := expandN_length hrp
  omega

theorem Fn_verify (B : Base cx plain) (hf : ("bech32_verify_checksum" : Str) ∈ plain) (hf1 : ("bech32_hrp_expand" : Str) ∈ plain) (hf2 : ("bech32_polymod" : Str) ∈ plain) (hrp data : List Nat) (hl : hrp.length ≤ 1000) (hd : data.length ≤ 1000) :
    Fn cx q (n + 1) "bech32_verify_checksum" [strN hrp, natl data] (.bool (decide (polyN (expandN hrp ++ data) = 1))) := by
  refine Fn_def B hf verify_plain rfl fun L a pm cd doc => ?_
  refine Runs_cons (Run1_return (Ev_cmp (Ev_call B.ok (Fn_polymod B hf2 _ ?_) rfl (EvAll_cons (Ev_values B hf1 (Ev_name rfl) (Ev_name rfl) hl hd) EvAll_nil)) (Ev_nat 1) op_eqN) rfl)
  have := expandN_length hrp
  simp; omega

theorem create_plain : Plain "bech32_create_checksum" ["hrp", "data"] where
  bind := fun pm cd doc vs h => by
    match vs, h with
    | [a, b], _ => rfl
  nd := by decide
  kind := fun x hx => by
    simp only [List.mem_cons, List.not_mem_nil, or_false] at hx
    rcases hx with rfl | rfl <;> exact .inl rfl
  cn := by decide
  co := rfl
  gen := rfl
  sk := rfl

def pmN (hrp data : List Nat) : Nat := polyN (expandN hrp ++ data ++ [0, 0, 0, 0, 0, 0]) ^^^ 1
def createN (hrp data : List Nat) : List Nat := (List.range 6).map fun i => (pmN hrp data >>> (5 * (5 - i))) &&& 31

theorem Fn_create (B : Base cx plain) (hf : ("bech32_create_checksum" : Str) ∈ plain) (hf1 : ("bech32_hrp_expand" : Str) ∈ plain) (hf2 : ("bech32_polymod" : Str) ∈ plain) (hrp data : List Nat) (hl : hrp.length ≤ 1000) (hd : data.length ≤ 1000) :
    Fn cx q (n + 1) "bech32_create_checksum" [strN hrp, natl data] (natl (createN hrp data)) := by
  refine Fn_def B hf create_plain rfl fun L a pm cd doc => ?_
  have hx := expandN_length hrp
  refine Runs_cons (Run1_assign (Ev_values B hf1 (Ev_name rfl) (Ev_name rfl) hl hd) (.inl rfl) ?_)
  refine Runs_cons (Run1_assign (p := .nat (pmN hrp data)) (Ev_binop (Ev_call B.ok (Fn_polymod B hf2 (expandN hrp ++ data ++ [0, 0, 0, 0, 0, 0]) ?_) rfl (EvAll_cons ?_ EvAll_nil)) (Ev_nat 1) op_xorN) (.inr ⟨rfl, rfl⟩) ?_)
  · simp; omega
  · refine Ev_binop (b := natl [0, 0, 0, 0, 0, 0]) (Ev_name rfl) (Ev_list (EvAll_cons (Ev_nat 0) (EvAll_cons (Ev_nat 0) (EvAll_cons (Ev_nat 0) (EvAll_cons (Ev_nat 0) (EvAll_cons (Ev_nat 0) (EvAll_cons (Ev_nat 0) EvAll_nil))))))) (op_add_natl ?_)
    simp; omega
  have e : natl (createN hrp data) = .list ((List.range 6).map fun i => .nat ((pmN hrp data >>> (5 * (5 - i))) &&& 31)) := by simp [createN, Function.comp_def]
  refine Runs_cons (Run1_return (p := natl (createN hrp data)) ?_ rfl)
  rw [e]
  refine Ev_compL (cl := [("polymod", L + 1)]) (ρc := [("polymod", .nat (pmN hrp data))]) (EvIter_range B.ok rfl (B.nob _ (by decide)) rfl (Ev_nat 6) rfl (by decide)) ?_ (by decide) (fun C a ha => ?_) (fun _ _ => rfl) natP_inj
  · exact ⟨rfl, by decide, rfl, by decide, rfl, fun e he => by
      simp only [List.mem_cons, List.not_mem_nil, or_false] at he
      subst he
      exact ⟨rfl, rfl, rfl, rfl⟩⟩
  · have : a < 6 := by simpa using ha
    exact Ev_binop (Ev_binop (Ev_name rfl) (Ev_binop (Ev_nat 5) (Ev_binop (Ev_nat 5) (Ev_name rfl) (op_subN (by omega))) (op_mulN (by omega))) op_shrN) (Ev_nat 31) op_andN
end Mine

namespace Mine
variable {cx : Cx} {q : Bool} {n : Nat} {env : Env} {plain : List Str} {ρ : Ctxt} {ow : Option (Str × List PV)}

def charsN : List Nat := [113, 112, 122, 114, 121, 57, 120, 56, 103, 102, 50, 116, 118, 100, 119, 48, 115, 51, 106, 110, 53, 52, 107, 104, 99, 101, 54, 109, 117, 97, 55, 108]
theorem chars_is : ("qpzry9x8gf2tvdw0s3jn54khce6mua7l" : Str) = sN charsN := by decide +kernel
def charN (d : Nat) : Nat := charsN.getD d 0

theorem Ev_charset {pos : Pos} (B : Base cx plain) (hk : env.kindOf "CHARSET" = some .globalImplicit := by rfl) : Ev cx q n env ρ ow (.Name "CHARSET" pos) (strN charsN) := by
  obtain ⟨t, e⟩ := B.charset
  rw [chars_is] at e
  exact Ev_global B.ok hk e fun _ _ => .str _ _

theorem encode32_plain : Plain "bech32_encode" ["hrp", "data"] where
  bind := fun pm cd doc vs h => by
    match vs, h with
    | [a, b], _ => rfl
  nd := by decide
  kind := fun x hx => by
    simp only [List.mem_cons, List.not_mem_nil, or_false] at hx
    rcases hx with rfl | rfl <;> exact .inl rfl
  cn := by decide
  co := rfl
  gen := rfl
  sk := rfl

def enc32N (hrp data : List Nat) : List Nat := hrp ++ [49] ++ (data ++ createN hrp data).map charN

theorem op_add_strN {a b : List Nat} (h : a.length + b.length ≤ 10000) : Op cx q n (bop .Add) [strN a, strN b] (strN (a ++ b)) := (op_add_str (by rw [sN_length, sN_length]; exact h)).to (by rw [sN_append])
theorem Ev_strN {x : Str} {k : Nat} {pos : Pos} (l : List Nat) (h : x = sN l := by rfl) : Ev cx q n env ρ ow (.Constant (.str x) k pos) (strN l) := h ▸ Ev_str

theorem createN_lt (hrp data : List Nat) : ∀ d ∈ createN hrp data, d < 32 := fun d hd => by
  obtain ⟨i, _, rfl⟩ := List.mem_map.mp hd
  exact Nat.lt_succ_of_le Nat.and_le_right
theorem createN_length (hrp data : List Nat) : (createN hrp data).length = 6 := by simp [createN]

theorem char_get {d : Nat} (h : d < 32) : charsN[d]? = some (charN d) := by
  unfold charN
  rw [List.getD_eq_getElem?_getD]
  have : d < charsN.length := h
  rw [List.getElem?_eq_getElem this]; rfl

theorem Ev_joinN {x : Str} {k : Nat} {spos apos pos : Pos} {e : Expr} {l : List Nat} (h : EvR cx q n env ρ ow e (.list (l.map oneN))) (hsz : l.length ≤ 10000) (hx : x = sN [] := by rfl) (hl : (apos.endLine == pos.line) = true := by rfl) (he : starEach [e] env = [(false, eval e env)] := by rfl) :
    Ev cx q n env ρ ow (.Call (.Attribute (.Constant (.str x) k spos) "join" apos) [e] [] pos) (strN l) := by
  have := Ev_join (o := .Constant (.str x) k spos) (Ev_strN [] hx) (ts := l.map fun c => sN [c]) (e := e) (by rw [List.map_map]; exact h) (joinOk_sN _ hsz) rfl hl he
  rw [join_sN] at this
  exact this

theorem Ev_item_strN {value slice : Expr} {pos : Pos} {l : List Nat} {k c : Nat} (hv : Ev cx q n env ρ ow value (strN l)) (hi : Ev cx q n env ρ ow slice (.nat k)) (h : l[k]? = some c) (hsz : l.length ≤ 100000)
    (hsu : ∀ o i, subscripted slice false o i = operate [o, i] (getItem o i) := by intro _ _; rfl) (ht : ∀ x t r, letTemporaryGo value (.str x t) r = pure () := by intro _ _ _; rfl) : Ev cx q n env ρ ow (.Subscript value slice pos) (oneN c) := by
  have hk : k < l.length := (List.getElem?_eq_some_iff.mp h).1
  have := Ev_item_str (pos := pos) hv hi (by omega) (by rw [sN_length]; omega) (by rw [sN_length]; exact hsz) hsu ht
  rw [item_sN h] at this
  exact this

theorem Fn_encode32 (B : Base cx plain) (hf : ("bech32_encode" : Str) ∈ plain) (hf0 : ("bech32_create_checksum" : Str) ∈ plain) (hf1 : ("bech32_hrp_expand" : Str) ∈ plain) (hf2 : ("bech32_polymod" : Str) ∈ plain) (hrp data : List Nat) (hl : hrp.length ≤ 1000) (hd : data.length ≤ 1000) (h32 : ∀ d ∈ data, d < 32) :
    Fn cx q (n + 2) "bech32_encode" [strN hrp, natl data] (strN (enc32N hrp data)) := by
  refine Fn_def B hf encode32_plain rfl fun L a pm cd doc => ?_
  have hc := createN_length hrp data
  have hb : ∀ d ∈ data ++ createN hrp data, d < 32 := fun d h => (List.mem_append.mp h).elim (h32 d) (createN_lt hrp data d)
  refine Runs_cons (Run1_assign (p := natl (data ++ createN hrp data)) (Ev_binop (Ev_list_of B.ok rfl (B.nob _ (by decide)) rfl (Ev_name rfl) (by simpa using (by omega : data.length ≤ 100000)))
    (Ev_call B.ok (Fn_create B hf0 hf1 hf2 hrp data hl hd) rfl (EvAll_cons (Ev_name rfl) (EvAll_cons (Ev_name rfl) EvAll_nil))) (op_add_natl (by omega))) (.inl rfl) ?_)
  refine Runs_cons (Run1_return (p := strN (enc32N hrp data)) (Ev_binop (Ev_binop (Ev_name rfl) (Ev_strN [49]) (op_add_strN (by simp; omega))) ?_ (op_add_strN ?_)) rfl)
  · refine Ev_joinN (Ev.r ?_) (by simp; omega)
    rw [List.map_map]
    refine Ev_compL (ρc := []) (cl := []) (g := PV.nat) (EvIter_list (Ev_name rfl) natl_scalar) ?_ (by simp; omega) (fun C d hd => ?_) (fun _ _ => rfl) natP_inj
    · exact ⟨rfl, by decide, rfl, by decide, rfl, fun e he => by cases he⟩
    · have hd32 := hb d hd
      exact Ev_item_strN (Ev_charset B) (Ev_name rfl) (char_get hd32) (by decide)
  · simp; omega
end Mine

namespace Mine
variable {cx : Cx} {q : Bool} {n : Nat} {env : Env} {plain : List Str} {ρ : Ctxt} {ow : Option (Str × List PV)}
local macro_rules | `(tactic| walk_at "has") => `(tactic| (repeat' first | exact Has_nil | refine Has_cons rfl ?_))
local macro_rules | `(tactic| walk_at "ow") => `(tactic| (intro y xs h; cases h; decide))

abbrev maskN (tb : Nat) : Nat := (1 <<< tb) - 1
def padC (fb tb : Nat) (data : List Nat) : List Nat :=
  let st := convC fb tb data
  if (st.2.1 != 0) = true then st.2.2 ++ [(st.1 <<< (tb - st.2.1)) &&& maskN tb] else st.2.2
def strictC (fb tb : Nat) (data : List Nat) : Option (List Nat) :=
  let st := convC fb tb data
  if (decide (fb ≤ st.2.1) || (((st.1 <<< (tb - st.2.1)) &&& maskN tb) != 0 || false)) = true then none else some st.2.2
def resC (fb tb : Nat) (data : List Nat) : Bool → PV
  | true => natl (padC fb tb data)
  | false => match strictC fb tb data with | none => .none | some l => natl l

theorem shl_one (k : Nat) : 1 ≤ 1 <<< k := by rw [Nat.one_shiftLeft]; exact Nat.two_pow_pos k

theorem EvT.to {e : Expr} {a b : Bool} (h : EvT cx q n env ρ ow e a) (hab : a = b) : EvT cx q n env ρ ow e b := hab ▸ h
theorem not_lt_zero' (v : Nat) : decide (v < 0) = false := by simp
theorem shr_zero {v fb : Nat} (h : v < 2 ^ fb) : (v >>> fb != 0) = false := by
  rw [Nat.shiftRight_eq_div_pow, Nat.div_eq_of_lt h]; rfl

abbrev convE (fd : FuncData) (L a : Addr) : Env := callEnvC fd L a

theorem conv_loops (C : CxOK cx) {fb tb : Nat} (hfb : 1 ≤ fb ∧ fb ≤ 8) (htb : 1 ≤ tb ∧ tb ≤ 8) (data : List Nat) (hlen : data.length ≤ 1000) (hlt : ∀ v ∈ data, v < 2 ^ fb) (pad : Bool) (L a : Addr) (pm cd doc T : Value) :
    Runs cx q n (callEnvC { fdOf "convertbits" pm cd doc with defaults := T } L a) ((["data", "frombits", "tobits", "pad"] : List Str).zip [natl data, .nat fb, .nat tb, .bool pad]) none (bodyOf "convertbits") (Gives (resC fb tb data pad)) := by
  refine Runs_cons (Run1_assign (p := .nat 0) (Ev_nat 0) (.inl rfl) ?_)
  refine Runs_cons (Run1_assign (p := .nat 0) (Ev_nat 0) (.inl rfl) ?_)
  refine Runs_cons (Run1_own (EvF_list EvAll_nil) (fun _ h => by cases h) (.inl rfl) ?_)
  refine Runs_cons (Run1_assign (p := .nat (maskN tb)) (Ev_binop (Ev_binop (Ev_nat 1) (Ev_name rfl) (op_shlN (by omega) (by decide))) (Ev_nat 1) (op_subN (shl_one _))) (.inl rfl) ?_ (by walk_at "ow"))
  refine Runs_cons (Run1_assign (p := .nat (maskN (fb + tb - 1))) (Ev_binop (Ev_binop (Ev_nat 1) (Ev_binop (Ev_binop (Ev_name rfl) (Ev_name rfl) op_addN) (Ev_nat 1) (op_subN (by omega))) (op_shlN (by omega) (by decide))) (Ev_nat 1) (op_subN (shl_one _))) (.inl rfl) ?_ (by walk_at "ow"))
  refine Runs_cons (Run1_for (fun i ρ ow => ow = some (("ret" : Str), (convC fb tb (data.take i)).2.2.map PV.nat) ∧ Has ρ [("acc", .nat (convC fb tb (data.take i)).1), ("bits", .nat (convC fb tb (data.take i)).2.1), ("data", natl data), ("frombits", .nat fb), ("tobits", .nat tb), ("pad", .bool pad), ("maxv", .nat (maskN tb)), ("max_acc", .nat (maskN (fb + tb - 1)))])
    (EvIter_list (Ev_name rfl) natl_scalar) (.inl rfl) ⟨rfl, by walk_at "has"⟩ ?_ ?_ ?_)
  · rintro i p ρ ow hp ⟨rfl, hH⟩
    obtain ⟨v, hv, rfl⟩ := nat_get hp
    have hvl : v < 2 ^ fb := hlt v (List.mem_of_getElem? hv)
    have hi : i < data.length := (List.getElem?_eq_some_iff.mp hv).1
    have I := convC_inv (fb := fb) (tb := tb) htb.1 (data.take i)
    rw [List.length_take, Nat.min_eq_left (Nat.le_of_lt hi)] at I
    rw [take_snoc hv, convC_snoc]
    refine Runs_weak hH.cons ?_
    clear hH
    generalize convC fb tb (data.take i) = st at I ⊢
    obtain ⟨acc, bits, ret⟩ := st
    obtain ⟨I1, I2, I3⟩ := I
    simp only at I1 I2 I3
    refine Runs_cons (Run1_if (b := false) (EvT_bools (EvTs_or (a := false) (b := false) ((EvT_cmp (Ev_name rfl) (Ev_nat 0) op_ltN).to (not_lt_zero' v)) (fun _ => EvTs_or (a := false) (b := false) ((EvT_value (Ev_binop (Ev_name rfl) (Ev_name rfl) op_shrN) (tru_nat _)).to (shr_zero hvl)) fun _ => EvTs_or_nil))) (fun h => by cases h) fun _ => Runs_nil ?_)
    refine Runs_cons (Run1_assign (p := .nat (accC fb tb acc v)) (Ev_binop (Ev_binop (Ev_binop (Ev_name rfl) (Ev_name rfl) (op_shlN (by omega) ?_)) (Ev_name rfl) op_orN) (Ev_name rfl) op_andN) (.inl rfl) ?_ (by walk_at "ow"))
    · exact Nat.lt_of_lt_of_le I1 (Nat.pow_le_pow_right (by decide) (by omega))
    refine Runs_cons (Run1_aug (c := .nat (bits + fb)) rfl (Ev_name rfl) op_iaddN (.inl rfl) ?_ (by walk_at "ow"))
    refine Runs_cons (Run1_while (fun k ρ ow => ∃ b r, drainC tb (accC fb tb acc v) k b r = drainC tb (accC fb tb acc v) (bits + fb) (bits + fb) ret ∧ b ≤ k ∧ tb * r.length + b = tb * ret.length + bits + fb ∧ ow = some (("ret" : Str), r.map PV.nat) ∧
      Has ρ [("acc", .nat (accC fb tb acc v)), ("bits", .nat b), ("data", natl data), ("frombits", .nat fb), ("tobits", .nat tb), ("pad", .bool pad), ("maxv", .nat (maskN tb)), ("max_acc", .nat (maskN (fb + tb - 1)))]) (bits + fb)
      ⟨bits + fb, ret, rfl, Nat.le_refl _, by omega, rfl, by walk_at "has"⟩ ?_)
    rintro k ρ ow ⟨b, r, hdr, hbk, hlen', rfl, hH⟩
    refine ⟨decide (tb ≤ b), EvT_cmp (Ev_name (hH _ _ rfl)) (Ev_name (hH _ _ rfl)) op_geN, fun hb => ?_, fun hb => Runs_nil ?_⟩
    · have hb : tb ≤ b := of_decide_eq_true hb
      obtain ⟨k, rfl⟩ : ∃ k', k = k' + 1 := ⟨k - 1, by omega⟩
      refine Runs_weak hH ?_
      have hr : r.length ≤ 10000 := by
        have : r.length ≤ tb * r.length := Nat.le_mul_of_pos_left _ (by omega)
        have h8 : fb * i ≤ 8 * 1000 := Nat.mul_le_mul hfb.2 (by omega)
        omega
      refine Runs_cons (Run1_aug (c := .nat (b - tb)) rfl (Ev_name rfl) (op_isubN hb) (.inl rfl) ?_ (by walk_at "ow"))
      refine Runs_cons (Run1_append (p := .nat ((accC fb tb acc v >>> (b - tb)) &&& maskN tb)) (Ev_binop (Ev_binop (Ev_name rfl) (Ev_name rfl) op_shrN) (Ev_name rfl) op_andN) rfl (by simpa using (by omega : r.length ≤ 100000)) ?_)
      refine Runs_nil ⟨k, Nat.lt_succ_self k, b - tb, r ++ [(accC fb tb acc v >>> (b - tb)) &&& maskN tb], ?_, by omega, ?_, by simp, by walk_at "has"⟩
      · rw [← hdr]
        conv => rhs; unfold drainC
        rw [if_pos hb]
      · rw [List.length_append, List.length_singleton, Nat.mul_add]; omega
    · have hb : ¬ tb ≤ b := of_decide_eq_false hb
      have e : drainC tb (accC fb tb acc v) k b r = (b, r) := by
        cases k with
        | zero => rfl
        | succ k => unfold drainC; rw [if_neg hb]
      rw [e] at hdr
      refine ⟨?_, ?_⟩
      · show _ = some (_, List.map PV.nat (drainC tb (accC fb tb acc v) (bits + fb) (bits + fb) ret).2)
        rw [← hdr]
      · show Has ρ [("acc", .nat (accC fb tb acc v)), ("bits", .nat (drainC tb (accC fb tb acc v) (bits + fb) (bits + fb) ret).1), _, _, _, _, _, _]
        rw [← hdr]; exact hH
  · rintro ρ ow ⟨rfl, hH⟩
    rw [List.length_map, List.take_length] at hH ⊢
    refine Runs_weak hH ?_
    clear hH
    have I := convC_inv (fb := fb) (tb := tb) htb.1 data
    have e1 : padC fb tb data = if ((convC fb tb data).2.1 != 0) = true then (convC fb tb data).2.2 ++ [((convC fb tb data).1 <<< (tb - (convC fb tb data).2.1)) &&& maskN tb] else (convC fb tb data).2.2 := rfl
    have e2 : strictC fb tb data = if (decide (fb ≤ (convC fb tb data).2.1) || ((((convC fb tb data).1 <<< (tb - (convC fb tb data).2.1)) &&& maskN tb) != 0 || false)) = true then none else some (convC fb tb data).2.2 := rfl
    generalize convC fb tb data = st at I e1 e2 ⊢
    obtain ⟨acc, bits, ret⟩ := st
    obtain ⟨I1, I2, I3⟩ := I
    simp only at I1 I2 I3 e1 e2 ⊢
    have hr : ret.length ≤ 10000 := by
      have : ret.length ≤ tb * ret.length := Nat.le_mul_of_pos_left _ (by omega)
      have h8 : fb * data.length ≤ 8 * 1000 := Nat.mul_le_mul hfb.2 hlen
      omega
    have hsh : acc < 2 ^ 64 := Nat.lt_of_lt_of_le I1 (Nat.pow_le_pow_right (by decide) (by omega))
    refine Runs_cons (Run1_if (b := pad) (EvT_value (Ev_name rfl) rfl) (fun hp => ?_) fun hp => ?_)
    · subst hp
      refine Runs_cons (Run1_if (EvT_value (Ev_name rfl) (tru_nat bits)) (fun hb => ?_) fun hb => ?_)
      · refine Runs_cons (Run1_append (p := .nat ((acc <<< (tb - bits)) &&& maskN tb)) (Ev_binop (Ev_binop (Ev_name rfl) (Ev_binop (Ev_name rfl) (Ev_name rfl) (op_subN (by omega))) (op_shlN (by omega) hsh)) (Ev_name rfl) op_andN) rfl (by simpa using (by omega : ret.length ≤ 100000)) ?_)
        refine Runs_nil (Runs_nil (Runs_cons (Run1_return_own ?_)))
        show _ = natl (padC fb tb data)
        rw [e1, if_pos hb]; simp
      · refine Runs_nil (Runs_nil (Runs_cons (Run1_return_own ?_)))
        show _ = natl (padC fb tb data)
        rw [e1, hb]; rfl
    · subst hp
      refine Runs_cons (Run1_if (EvT_bools (EvTs_or (EvT_cmp (Ev_name rfl) (Ev_name rfl) op_geN) (fun _ => EvTs_or (EvT_value (Ev_binop (Ev_binop (Ev_name rfl) (Ev_binop (Ev_name rfl) (Ev_name rfl) (op_subN (by omega))) (op_shlN (by omega) hsh)) (Ev_name rfl) op_andN) (tru_nat _)) fun _ => EvTs_or_nil))) (fun hb => ?_) fun hb => ?_)
      · refine Runs_cons (Run1_return Ev_none ?_)
        show _ = resC fb tb data false
        unfold resC
        rw [e2, if_pos hb]
      · refine Runs_nil (Runs_nil (Runs_cons (Run1_return_own ?_)))
        show _ = resC fb tb data false
        unfold resC
        rw [e2, hb]; rfl
  · rintro i ρ ow ⟨rfl, _⟩
    walk_at "ow"
end Mine

namespace Mine
variable {cx : Cx} {q : Bool} {n : Nat} {env : Env} {plain : List Str} {ρ : Ctxt} {ow : Option (Str × List PV)}

theorem conv_kind : ∀ x ∈ (["data", "frombits", "tobits", "pad"] : List Str), (theDef pw "convertbits").2.2.names.lookup x = some .local := by decide

theorem conv_cn : (((theDef pw "convertbits").2.2.names.filter fun x => x.2 == .cell).map (·.1)).Nodup := by decide

theorem Fn_conv3 (B : Base cx plain) {fb tb : Nat} (hfb : 1 ≤ fb ∧ fb ≤ 8) (htb : 1 ≤ tb ∧ tb ≤ 8) (data : List Nat) (hlen : data.length ≤ 1000) (hlt : ∀ v ∈ data, v < 2 ^ fb) :
    Fn cx q n "convertbits" [natl data, .nat fb, .nat tb] (natl (padC fb tb data)) := by
  obtain ⟨a, pm, cd, doc, T, tn, H, hT⟩ := B.conv
  refine Fn_introB (ex := [.bool true]) (eps := [.bool true]) (names := ["data", "frombits", "tobits", "pad"]) B.ok H rfl rfl rfl (fun _ _ => .cons (.bool _) .nil) (fun s vs gi hv => ?_) (by decide) (fun x hx => .inl (conv_kind x hx)) conv_cn rfl rfl rfl rfl rfl (fun L => conv_loops B.ok hfb htb data hlen hlt true L a pm cd doc _)
  have hT' := gi.get hT (fun z => by have := B.ok.base.tab.2; rw [← z, hT] at this; cases this)
  match vs, hv with
  | [x, y, z], _ => exact BindsTo.of_defaults rfl hT' rfl rfl rfl
theorem Fn_conv4 (B : Base cx plain) {fb tb : Nat} (hfb : 1 ≤ fb ∧ fb ≤ 8) (htb : 1 ≤ tb ∧ tb ≤ 8) (data : List Nat) (hlen : data.length ≤ 1000) (hlt : ∀ v ∈ data, v < 2 ^ fb) (pad : Bool) :
    Fn cx q n "convertbits" [natl data, .nat fb, .nat tb, .bool pad] (resC fb tb data pad) := by
  obtain ⟨a, pm, cd, doc, T, tn, H, hT⟩ := B.conv
  refine Fn_introB (ex := []) (eps := []) (names := ["data", "frombits", "tobits", "pad"]) B.ok H rfl rfl rfl (fun _ _ => .nil) (fun s vs gi hv => ?_) (by decide) (fun x hx => .inl (conv_kind x hx)) conv_cn rfl rfl rfl rfl rfl (fun L => conv_loops B.ok hfb htb data hlen hlt pad L a pm cd doc _)
  have hT' := gi.get hT (fun z => by have := B.ok.base.tab.2; rw [← z, hT] at this; cases this)
  match vs, hv with
  | [x, y, z, u], _ => exact BindsTo.of_defaults rfl hT' rfl rfl rfl

/-- texts -/
theorem op_len_strN {l : List Nat} (h : l.length ≤ 100000) : Op cx q n (fun vs => call (.builtin "len") vs) [strN l] (.nat l.length) := .mk1 fun A s W a E hA V rx => by
  cases rx
  have e : (sN l).length = l.length := sN_length l
  refine PyProof.Rows.len_str (by rw [e]; omega) ⟨(tokk _ _).tok _, ?_⟩
  rw [e]; exact .int _ _
theorem op_len_natl {l : List Nat} (h : l.length ≤ 100000) : Op cx q n (fun vs => call (.builtin "len") vs) [natl l] (.nat l.length) := (op_len_list (by simpa using h)).to (by simp)
theorem Ev_len {e : Expr} {xp pos : Pos} {p : PV} {k : Nat} (B : Base cx plain) (h : EvR cx q n env ρ ow e p) (ho : Op cx q n (fun vs => call (.builtin "len") vs) [p] (.nat k)) (hk : env.kindOf "len" = some .globalImplicit := by rfl)
    (he : ∀ env, starEach [e] env = [(false, eval e env)] := by intro _; rfl) : Ev cx q n env ρ ow (.Call (.Name "len" xp) [e] [] pos) (.nat k) :=
  Ev_call_builtin1 B.ok hk (B.nob _ (by decide)) rfl h ho rfl he
theorem op_ne_strN {a b : List Nat} : Op cx q n (cop .NotEq) [strN a, strN b] (.bool (a != b)) := op_ne_str.to (by rw [bne, bne, sN_beq])
theorem op_eq_strN {a b : List Nat} : Op cx q n (cop .Eq) [strN a, strN b] (.bool (a == b)) := op_eq_str.to (by rw [sN_beq])

section
variable {o e : Expr} {apos pos : Pos}
theorem Ev_lowerN {l : List Nat} (h : Ev cx q n env ρ ow o (strN l)) (h128 : ∀ c ∈ l, c < 128) (hsz : l.length ≤ 100000) (hb : attributeBase o "lower" env (eval o env) = eval o env := by rfl) (hl : (apos.endLine == pos.line) = true := by rfl) :
    Ev cx q n env ρ ow (.Call (.Attribute o "lower" apos) [] [] pos) (strN (lowN l)) := by
  have := Ev_lower h (by rw [sN_length]; exact hsz) hb hl (pos := pos)
  rw [lower_sN h128] at this; exact this
theorem Ev_upperN {l : List Nat} (h : Ev cx q n env ρ ow o (strN l)) (h128 : ∀ c ∈ l, c < 128) (hsz : l.length ≤ 100000) (hb : attributeBase o "upper" env (eval o env) = eval o env := by rfl) (hl : (apos.endLine == pos.line) = true := by rfl) :
    Ev cx q n env ρ ow (.Call (.Attribute o "upper" apos) [] [] pos) (strN (upN l)) := by
  have := Ev_upper h (by rw [sN_length]; exact hsz) hb hl (pos := pos)
  rw [upper_sN h128] at this; exact this
end

section
variable {value : Expr} {pos sp : Pos}
theorem Ev_to_strN {hi : Expr} {l : List Nat} {k : Nat} (hv : Ev cx q n env ρ ow value (strN l)) (hh : Ev cx q n env ρ ow hi (.nat k)) (hk : k ≤ l.length) (hsz : l.length ≤ 100000) : Ev cx q n env ρ ow (.Subscript value (.Slice none (some hi) none sp) pos) (strN (l.take k)) := by
  have := Ev_slice_str (pos := pos) (sp := sp) (lower := none) (upper := some hi) (lo := none) (hi := some (k : Int)) hv trivial hh (by rw [sN_length]; exact hsz)
  rw [slice_to hk] at this; exact this
theorem Ev_from_strN {lo : Expr} {l : List Nat} {k : Nat} (hv : Ev cx q n env ρ ow value (strN l)) (hh : Ev cx q n env ρ ow lo (.nat k)) (hk : k ≤ l.length) (hsz : l.length ≤ 100000) : Ev cx q n env ρ ow (.Subscript value (.Slice (some lo) none none sp) pos) (strN (l.drop k)) := by
  have := Ev_slice_str (pos := pos) (sp := sp) (lower := some lo) (upper := none) (lo := some (k : Int)) (hi := none) hv hh trivial (by rw [sN_length]; exact hsz)
  rw [slice_from hk] at this; exact this
theorem Ev_from_natl {lo : Expr} {l : List Nat} {k : Nat} (hv : Ev cx q n env ρ ow value (natl l)) (hh : Ev cx q n env ρ ow lo (.nat k)) (hsz : l.length ≤ 100000) : Ev cx q n env ρ ow (.Subscript value (.Slice (some lo) none none sp) pos) (natl (l.drop k)) := by
  refine Ev_slice_list (lower := some lo) (upper := none) (lo := some (k : Int)) (hi := none) hv hh trivial (by simpa using hsz) ?_
  simp only [Option.elim, clipAt_nat, List.length_map]
  rw [← List.map_drop, ← List.map_take]
  congr 1
  by_cases h : k ≤ l.length
  · rw [Nat.min_eq_left h, List.take_of_length_le (by simp)]
  · rw [Nat.min_eq_right (by omega), List.drop_of_length_le (by omega), List.drop_of_length_le (by omega)]; simp
theorem Ev_butlast_natl {hi : Expr} {l : List Nat} {k : Nat} (hv : Ev cx q n env ρ ow value (natl l)) (hh : Ev cx q n env ρ ow hi (.int (-(k : Int)))) (h1 : 1 ≤ k) (hsz : l.length ≤ 100000) : Ev cx q n env ρ ow (.Subscript value (.Slice none (some hi) none sp) pos) (natl (l.take (l.length - k))) := by
  refine Ev_slice_list (lower := none) (upper := some hi) (lo := none) (hi := some (-(k : Int))) hv trivial hh (by simpa using hsz) ?_
  simp only [Option.elim, clipAt_neg _ k h1, List.length_map]
  rw [List.drop_zero, Nat.sub_zero, List.map_take]
end

/-- any, all over the signs of a text -/
def headCp : PV → Nat
  | .str s => s.cps.toList.headD 0
  | _ => 0
theorem headCp_one (c : Nat) : headCp (oneN c) = c := rfl
theorem Ev_anyL {xp gpos pos : Pos} {elt iter : Expr} {x : Str} {px : Pos} {scope : Scope} {l : List Nat} (B : Base cx plain) (hcode : env.code = .ref cx.c) (f : Nat → Bool) (hit : EvIter cx false n env ρ ow iter (l.map oneN)) (H : GenEnvOk scope env x)
    (helt : ∀ C code, ∀ c ∈ l, Ev cx true n (genEnv scope [] C code builtinsNs env) [(x, oneN c)] none elt (.bool (f c)))
    (hnk : env.kindOf "any" = some .globalImplicit := by rfl) (hs : ∀ x, genFold iter env x = pure x := by intro _; rfl) :
    Ev cx false (n + 1) env ρ ow (.Call (.Name "any" xp) [.GeneratorExp elt [⟨.Name x px, iter, [], 0⟩] scope gpos] [] pos) (.bool (l.any f)) := by
  have := Ev_any (xp := xp) (gpos := gpos) (pos := pos) (px := px) B.ok B.bm hcode (fun p => f (headCp p)) hit H (fun C code p hp => by
    obtain ⟨c, hc, rfl⟩ := List.mem_map.mp hp
    exact helt C code c hc) hnk (B.nob _ (by decide)) rfl hs
  rw [List.any_map] at this
  exact this
theorem Ev_allL {xp gpos pos : Pos} {elt iter : Expr} {x : Str} {px : Pos} {scope : Scope} {l : List Nat} (B : Base cx plain) (hcode : env.code = .ref cx.c) (f : Nat → Bool) (hit : EvIter cx false n env ρ ow iter (l.map oneN)) (H : GenEnvOk scope env x)
    (helt : ∀ C code, ∀ c ∈ l, Ev cx true n (genEnv scope [] C code builtinsNs env) [(x, oneN c)] none elt (.bool (f c)))
    (hnk : env.kindOf "all" = some .globalImplicit := by rfl) (hs : ∀ x, genFold iter env x = pure x := by intro _; rfl) :
    Ev cx false (n + 1) env ρ ow (.Call (.Name "all" xp) [.GeneratorExp elt [⟨.Name x px, iter, [], 0⟩] scope gpos] [] pos) (.bool (l.all f)) := by
  have := Ev_all (xp := xp) (gpos := gpos) (pos := pos) (px := px) B.ok B.bm hcode (fun p => f (headCp p)) hit H (fun C code p hp => by
    obtain ⟨c, hc, rfl⟩ := List.mem_map.mp hp
    exact helt C code c hc) hnk (B.nob _ (by decide)) rfl hs
  rw [List.all_map] at this
  exact this
end Mine

namespace Mine
variable {cx : Cx} {q : Bool} {n : Nat} {env : Env} {plain : List Str} {ρ : Ctxt} {ow : Option (Str × List PV)}

def rposN (l : List Nat) : Int := Txt.rfind (sN l) (sN [49])
def badC (c : Nat) : Bool := decide (c < 33) || decide (126 < c)
def idxN (c : Nat) : Nat := charsN.idxOf c

/-- bech32_decode, as a function upon lists -/
def decT (b : List Nat) (k : Nat) : Option (List Nat × List Nat) :=
  if (!(b.drop (k + 1)).all fun c => decide (c ∈ charsN)) = true then none else
  if (!decide (polyN (expandN (b.take k) ++ (b.drop (k + 1)).map idxN) = 1)) = true then none else
  some (b.take k, ((b.drop (k + 1)).map idxN).take (((b.drop (k + 1)).map idxN).length - 6))
def decB (s : List Nat) : Option (List Nat × List Nat) :=
  if (s.any badC || ((lowN s != s && (upN s != s && true)) || false)) = true then none else
  if (decide (rposN (lowN s) < 1) || (decide (83 < rposN (lowN s)) || (decide (((lowN s).length : Int) < rposN (lowN s) + 7) || false))) = true then none else
  decT (lowN s) (rposN (lowN s)).toNat
def decPV : Option (List Nat × List Nat) → PV
  | none => .tup [.none, .none]
  | some (h, d) => .tup [strN h, natl d]

theorem dec_plain : Plain "bech32_decode" ["bech"] where
  bind := fun pm cd doc vs h => by
    match vs, h with
    | [a], _ => rfl
  nd := by decide
  kind := fun x hx => by
    simp only [List.mem_cons, List.not_mem_nil, or_false] at hx
    subst hx; exact .inl rfl
  cn := by decide
  co := rfl
  gen := rfl
  sk := rfl

theorem Ev.to {e : Expr} {a b : PV} (h : Ev cx q n env ρ ow e a) (hab : a = b) : Ev cx q n env ρ ow e b := hab ▸ h

theorem Fn_dec32 (B : Base cx plain) (hf : ("bech32_verify_checksum" : Str) ∈ plain) (hf1 : ("bech32_hrp_expand" : Str) ∈ plain) (hf2 : ("bech32_polymod" : Str) ∈ plain) (s : List Nat) (hl : s.length ≤ 900) :
    Fn cx false (n + 2) "bech32_decode" [strN s] (decPV (decB s)) := by
  refine Fn_dec B dec_plain rfl fun L a pm doc => ?_
  refine Runs_cons (Run1_if (b := s.any badC || ((lowN s != s && (upN s != s && true)) || false)) (EvT_bools (EvTs_or (EvT_value (Ev_anyL B rfl badC (EvIter_strN (Ev_name rfl)) ?_ fun C code c hc => ?_) rfl) (fun ha => EvTs_or ?_ fun _ => EvTs_or_nil))) (fun hb => ?_) fun hb => ?_)
  · exact ⟨rfl, by decide, rfl, rfl, rfl, rfl⟩
  · exact Ev_or2 (Ev_cmp (Ev_ord B (Ev_name rfl)) (Ev_nat 33) op_ltN) fun _ => Ev_cmp (Ev_ord B (Ev_name rfl)) (Ev_nat 126) op_gtN
  · have h128 : ∀ c ∈ s, c < 128 := fun c hc => by
      have := (List.any_eq_false.mp ha) c hc
      simp [badC] at this; omega
    exact EvT_bools (EvTs_and (EvT_cmp (Ev_lowerN (Ev_name rfl) h128 (by omega)) (Ev_name rfl) op_ne_strN) fun _ => EvTs_and (EvT_cmp (Ev_upperN (Ev_name rfl) h128 (by omega)) (Ev_name rfl) op_ne_strN) fun _ => EvTs_and_nil)
  · refine Runs_cons (Run1_return (Ev_tuple (EvAll_cons Ev_none (EvAll_cons Ev_none EvAll_nil))) ?_)
    show _ = decPV (decB s)
    unfold decB; rw [if_pos hb]; rfl
  have h128 : ∀ c ∈ s, c < 128 := fun c hc => by
    have ha : s.any badC = false := (Bool.or_eq_false_iff.mp hb).1
    have := (List.any_eq_false.mp ha) c hc
    simp [badC] at this; omega
  have e1 : decB s = if (decide (rposN (lowN s) < 1) || (decide (83 < rposN (lowN s)) || (decide (((lowN s).length : Int) < rposN (lowN s) + 7) || false))) = true then none else decT (lowN s) (rposN (lowN s)).toNat := by
    unfold decB; rw [hb]; rfl
  rw [e1]
  have hbl : (lowN s).length ≤ 900 := by simpa [lowN] using hl
  refine Runs_nil (Runs_cons (Run1_assign (p := strN (lowN s)) (Ev_lowerN (Ev_name rfl) h128 (by omega)) (.inl rfl) ?_))
  generalize lowN s = b at hbl ⊢
  clear e1 hb h128
  refine Runs_cons (Run1_assign (p := .int (rposN b)) (Ev_rfind (Ev_name rfl) (Ev_strN [49])) (.inl rfl) ?_)
  refine Runs_cons (Run1_if (b := decide (rposN b < 1) || (decide (83 < rposN b) || (decide ((b.length : Int) < rposN b + 7) || false))) (EvT_bools (EvTs_or (EvT_cmp (Ev_name rfl) Ev_int op_lt) fun _ => EvTs_or (EvT_cmp (Ev_name rfl) Ev_int op_gt) fun _ =>
    EvTs_or (EvT_cmp (Ev_binop (Ev_name rfl) Ev_int op_add) (Ev_len B (Ev_name rfl).r (op_len_strN (by omega))) op_gt) fun _ => EvTs_or_nil)) (fun hb => ?_) fun hb => ?_)
  · refine Runs_cons (Run1_return (Ev_tuple (EvAll_cons Ev_none (EvAll_cons Ev_none EvAll_nil))) ?_)
    rw [if_pos hb]; rfl
  rw [hb]
  simp only [Bool.false_eq_true, if_false]
  simp only [Bool.or_false, Bool.or_eq_false_iff, decide_eq_false_iff_not] at hb
  obtain ⟨k, hk⟩ : ∃ k : Nat, rposN b = (k : Int) := ⟨(rposN b).toNat, by omega⟩
  rw [hk] at hb ⊢
  rw [Int.toNat_natCast]
  have hk1 : k + 7 ≤ b.length := by omega
  refine Runs_nil ?_
  have tail : ∀ {m : Nat} {vp p1 p2 p3 sp pp : Pos} {kd : Nat} {ρ : Ctxt}, ρ.lookup ("bech" : Str) = some (strN b) → ρ.lookup ("pos" : Str) = some (.int k) → Ev cx false m (callEnvC (fdOf "bech32_decode" pm (.ref cx.c) doc) L a) ρ none
      (.Subscript (.Name "bech" vp) (.Slice (some (.BinOp (.Name "pos" p1) .Add (.Constant (.int 1) kd p2) p3)) none none sp) pp) (strN (b.drop (k + 1))) := fun h1 h2 =>
    Ev_from_strN (Ev_name h1) (Ev_binop (Ev_name h2) (Ev_nat 1) op_addN) (by omega) (by omega)
  refine Runs_cons (Run1_if (EvT_not (EvT_value (Ev_allL B rfl (fun c => decide (c ∈ charsN)) (EvIter_strN (tail rfl rfl)) ?_ fun C code c hc => ?_) rfl)) (fun hb => ?_) fun hb => ?_)
  · exact ⟨rfl, by decide, rfl, rfl, rfl, rfl⟩
  · exact (Ev_cmp (Ev_name rfl) (Ev_charset B) op_in_str).to (by rw [contains_one])
  · refine Runs_cons (Run1_return (Ev_tuple (EvAll_cons Ev_none (EvAll_cons Ev_none EvAll_nil))) ?_)
    show _ = decPV (decT b k)
    unfold decT; rw [if_pos hb]; rfl
  have e2 : decT b k = if (!decide (polyN (expandN (b.take k) ++ (b.drop (k + 1)).map idxN) = 1)) = true then none else some (b.take k, ((b.drop (k + 1)).map idxN).take (((b.drop (k + 1)).map idxN).length - 6)) := by
    unfold decT; rw [hb]; rfl
  rw [e2]
  have hall : ∀ c ∈ b.drop (k + 1), c ∈ charsN := by simpa using hb
  refine Runs_nil (Runs_cons (Run1_assign (p := strN (b.take k)) (Ev_to_strN (Ev_name rfl) (Ev_name rfl) (by omega) (by omega)) (.inl rfl) ?_))
  refine Runs_cons ?_
  have fin : ∀ l : List Nat, (l.map fun c => PV.nat (idxN c)) = (l.map idxN).map PV.nat := fun l => by simp
  refine Run1_assign_compL (ρc := []) (cl := []) (f := fun c => .nat (idxN c)) (EvIter_strN (tail rfl rfl)) ?_ (by simp; omega) (fun C c hc => ?_) (fun _ _ => rfl) oneN_inj rfl ?_
  · exact ⟨rfl, by decide, rfl, by decide, rfl, fun e he => by cases he⟩
  · exact (Ev_find (Ev_charset B) (Ev_name rfl)).to (by rw [find_one (hall c hc)]; rfl)
  rw [fin]
  refine Runs_cons (Run1_if (EvT_not (EvT_value (Ev_call B.ok (Fn_verify B hf hf1 hf2 (b.take k) ((b.drop (k + 1)).map idxN) (by simp; omega) (by simp; omega)) rfl (EvAll_cons (Ev_name rfl) (EvAll_cons (Ev_name rfl) EvAll_nil))) rfl)) (fun hb => ?_) fun hb => ?_)
  · refine Runs_cons (Run1_return (Ev_tuple (EvAll_cons Ev_none (EvAll_cons Ev_none EvAll_nil))) ?_)
    rw [if_pos hb]; rfl
  · rw [hb]
    refine Runs_nil (Runs_cons (Run1_return (Ev_tuple (EvAll_cons (Ev_name rfl) (EvAll_cons (Ev_butlast_natl (k := 6) (Ev_name rfl) (Ev_unop Ev_int op_neg) (by decide) (by simp; omega)) EvAll_nil)) (Nat.le_of_ble_eq_true rfl)) ?_))
    rfl
end Mine

namespace Mine
variable {cx : Cx} {q : Bool} {n : Nat} {env : Env} {plain : List Str} {ρ : Ctxt} {ow : Option (Str × List PV)}

theorem idxN_lt {c : Nat} (h : c ∈ charsN) : idxN c < 32 := by
  have := List.idxOf_lt_length_iff.mpr h
  exact this
theorem decT_of {b : List Nat} {k : Nat} {h d : List Nat} (e : decT b k = some (h, d)) : h.length ≤ b.length ∧ d.length ≤ b.length ∧ ∀ v ∈ d, v < 32 := by
  unfold decT at e
  split at e
  · cases e
  · rename_i hall
    split at e
    · cases e
    · cases e
      refine ⟨by simp; omega, by simp; omega, fun v hv => ?_⟩
      have hv := List.mem_of_mem_take hv
      obtain ⟨c, hc, rfl⟩ := List.mem_map.mp hv
      have h2 : ∀ c ∈ b.drop (k + 1), c ∈ charsN := by simpa using hall
      exact idxN_lt (h2 c hc)
theorem decB_of {s h d : List Nat} (e : decB s = some (h, d)) : h.length ≤ s.length ∧ d.length ≤ s.length ∧ ∀ v ∈ d, v < 32 := by
  unfold decB at e
  split at e
  · cases e
  · split at e
    · cases e
    · have := decT_of e
      simpa [lowN] using this

/-- decode, as a function upon lists -/
def decN (hrp s : List Nat) : Option (Nat × List Nat) :=
  match decB s with
  | none => none
  | some (h, d) =>
    if (h != hrp) = true then none else
    match strictC 5 8 (d.drop 1) with
    | none => none
    | some p =>
      if (decide (p.length < 2) || (decide (40 < p.length) || false)) = true then none else
      if decide (16 < d.headD 0) = true then none else
      if (decide (d.headD 0 = 0) && ((!decide (p.length = 20)) && ((!decide (p.length = 32)) && true))) = true then none else
      some (d.headD 0, p)
def pairPV : Option (Nat × List Nat) → PV
  | none => .tup [.none, .none]
  | some (v, p) => .tup [.nat v, natl p]

theorem decode_plain : Plain "decode" ["hrp", "addr"] where
  bind := fun pm cd doc vs h => by
    match vs, h with
    | [a, b], _ => rfl
  nd := by decide
  kind := fun x hx => by
    simp only [List.mem_cons, List.not_mem_nil, or_false] at hx
    rcases hx with rfl | rfl <;> exact .inl rfl
  cn := by decide
  co := rfl
  gen := rfl
  sk := rfl

theorem strictC_of {d p : List Nat} (e : strictC 5 8 d = some p) : p = (convC 5 8 d).2.2 := by
  unfold strictC at e
  simp only at e
  split at e
  · cases e
  · cases e; rfl

theorem op_ne_none_str {x : Str} : Op cx q n (cop .NotEq) [.none, .str x] (.bool true) := .mk2 fun A s W a b E hA V rx ry => by
  cases rx; cases ry
  exact SeqAt.RcNeAt.none_str _ _ _ _ _ _ ⟨.refl _, .bool _⟩
theorem canLay_nats : ∀ l : List Nat, PyData.canLayAll0 (PV.dat.datAll (l.map PV.nat)) = true
  | [] => rfl
  | a :: l => by simp only [List.map_cons, PV.dat.datAll, PyData.canLayAll0, PV.dat, PyData.canLay0, canLay_nats l, Bool.and_self]
theorem depth_nats : ∀ l : List Nat, PyData.depthAll (PV.dat.datAll (l.map PV.nat)) = 0
  | [] => rfl
  | a :: l => by simp only [List.map_cons, PV.dat.datAll, PyData.depthAll, PV.dat, PyData.depth, depth_nats l, Nat.max_self]
theorem shaped_pair : ∀ r : Option (Nat × List Nat), SeqAt.shaped (pairPV r).dat = true
  | none => rfl
  | some (v, p) => by
    simp only [pairPV, PV.dat, PV.dat.datAll, SeqAt.shaped, PyData.canLay0, PyData.canLayAll0, canLay_nats, PyData.depth, PyData.depthAll, depth_nats]
    rfl
theorem get_head {d : List Nat} (h : 1 ≤ d.length) : (d.map PV.nat)[(0 : Int).toNat]? = some (.nat (d.headD 0)) := by
  cases d with
  | nil => simp at h
  | cons a d => rfl

theorem Fn_decode (B : Base cx plain) (hf : ("decode" : Str) ∈ plain) (hf0 : ("bech32_verify_checksum" : Str) ∈ plain) (hf1 : ("bech32_hrp_expand" : Str) ∈ plain) (hf2 : ("bech32_polymod" : Str) ∈ plain) (hrp s : List Nat) (hl : s.length ≤ 900) :
    Fn cx false (n + 3) "decode" [strN hrp, strN s] (pairPV (decN hrp s)) := by
  refine Fn_def B hf decode_plain rfl fun L a pm cd doc => ?_
  have hcall := Fn_dec32 (n := n) B hf0 hf1 hf2 s hl
  have e0 : decN hrp s = match decB s with
    | none => none
    | some (h, d) => if (h != hrp) = true then none else match strictC 5 8 (d.drop 1) with
      | none => none
      | some p => if (decide (p.length < 2) || (decide (40 < p.length) || false)) = true then none else if decide (16 < d.headD 0) = true then none else
        if (decide (d.headD 0 = 0) && ((!decide (p.length = 20)) && ((!decide (p.length = 32)) && true))) = true then none else some (d.headD 0, p) := rfl
  rw [e0]
  have hof := @decB_of s
  generalize decB s = r at hcall hof ⊢
  clear e0
  cases r with
  | none =>
    refine Runs_cons (Run1_unpack (names := [("hrpgot", { line := 58, col := 4, endLine := 58, endCol := 10 }), ("data", { line := 58, col := 12, endLine := 58, endCol := 16 })]) rfl (Ev_call B.ok hcall rfl (EvAll_cons (Ev_name rfl) EvAll_nil)) (.inl rfl) rfl ?_ ?_)
    · intro x hx
      simp only [List.mem_cons, List.not_mem_nil, or_false] at hx
      rcases hx with rfl | rfl <;> exact ⟨.inl rfl, by intro _ _ h; cases h⟩
    refine Runs_cons (Run1_if (EvT_cmp (Ev_name rfl) (Ev_name rfl) op_ne_none_str) (fun hb => ?_) fun hb => ?_)
    · exact Runs_cons (Run1_return (Ev_tuple (EvAll_cons Ev_none (EvAll_cons Ev_none EvAll_nil))) rfl)
    · cases hb
  | some r =>
    obtain ⟨h, d⟩ := r
    obtain ⟨o1, o2, o3⟩ := hof rfl
    refine Runs_cons (Run1_unpack (names := [("hrpgot", { line := 58, col := 4, endLine := 58, endCol := 10 }), ("data", { line := 58, col := 12, endLine := 58, endCol := 16 })]) rfl (Ev_call B.ok hcall rfl (EvAll_cons (Ev_name rfl) EvAll_nil)) (.inl rfl) rfl ?_ ?_)
    · intro x hx
      simp only [List.mem_cons, List.not_mem_nil, or_false] at hx
      rcases hx with rfl | rfl <;> exact ⟨.inl rfl, by intro _ _ h; cases h⟩
    simp only
    refine Runs_cons (Run1_if (EvT_cmp (Ev_name (p := strN h) rfl) (Ev_name rfl) op_ne_strN) (fun hb => ?_) fun hb => ?_)
    · refine Runs_cons (Run1_return (Ev_tuple (EvAll_cons Ev_none (EvAll_cons Ev_none EvAll_nil))) ?_)
      rw [if_pos hb]; rfl
    rw [hb]
    simp only [Bool.false_eq_true, if_false]
    refine Runs_nil (Runs_cons (Run1_assert ((EvT_cmp (Ev_name (p := natl d) rfl) Ev_none op_isnot_none).to rfl) ?_))
    have hc := Fn_conv4 (q := false) (n := n + 2) B (fb := 5) (tb := 8) (by decide) (by decide) (d.drop 1) (by simp; omega) (fun v hv => o3 v (List.mem_of_mem_drop hv)) false
    refine Runs_cons (Run1_assign (Ev_call B.ok hc rfl (EvAll_cons (Ev_from_natl (Ev_name rfl) (Ev_nat 1) (by omega)) (EvAll_cons (Ev_nat 5) (EvAll_cons (Ev_nat 8) (EvAll_cons Ev_bool EvAll_nil))))) (.inl rfl) ?_)
    have hst := @strictC_of (d.drop 1)
    have I := convC_inv (fb := 5) (tb := 8) (by decide) (d.drop 1)
    have el : resC 5 8 (d.drop 1) false = match strictC 5 8 (d.drop 1) with | none => .none | some l => natl l := rfl
    rw [el]
    generalize strictC 5 8 (d.drop 1) = r at hst ⊢
    clear el hc
    cases r with
    | none =>
      refine Runs_cons (Run1_if (b := true) (EvT_bools ((EvTs_or (b := true) ((EvT_cmp (Ev_name (p := .none) rfl) Ev_none op_is_none).to (b := true) rfl) (fun h => by cases h) : EvTs _ _ _ _ _ _ _ _ (true || true)))) (fun hb => ?_) fun hb => by cases hb)
      exact Runs_cons (Run1_return (Ev_tuple (EvAll_cons Ev_none (EvAll_cons Ev_none EvAll_nil))) rfl)
    | some p =>
      have hp := hst rfl
      obtain ⟨_, I2, I3⟩ := I
      rw [← hp] at I3
      simp only [List.length_drop] at I3
      simp only
      refine Runs_cons (Run1_if (b := decide (p.length < 2) || (decide (40 < p.length) || false)) (EvT_bools (EvTs_or (a := false) ((EvT_cmp (Ev_name (p := natl p) rfl) Ev_none op_is_none).to rfl) fun _ => EvTs_or (EvT_cmp (Ev_len B (Ev_name rfl).r (op_len_natl (by omega))) (Ev_nat 2) op_ltN) fun _ => EvTs_or (EvT_cmp (Ev_len B (Ev_name rfl).r (op_len_natl (by omega))) (Ev_nat 40) op_gtN) fun _ => EvTs_or_nil)) (fun hb => ?_) fun hb => ?_)
      · refine Runs_cons (Run1_return (Ev_tuple (EvAll_cons Ev_none (EvAll_cons Ev_none EvAll_nil))) ?_)
        rw [if_pos hb]; rfl
      rw [hb]
      simp only [Bool.false_eq_true, if_false]
      simp only [Bool.or_false, Bool.or_eq_false_iff, decide_eq_false_iff_not] at hb
      have hd1 : 1 ≤ d.length := by omega
      have item : ∀ {m : Nat} {vp ip pp : Pos} {kd : Nat} {ρ : Ctxt}, ρ.lookup ("data" : Str) = some (natl d) → Ev cx false m (callEnvC (fdOf "decode" pm cd doc) L a) ρ none (.Subscript (.Name "data" vp) (.Constant (.int 0) kd ip) pp) (.nat (d.headD 0)) := fun h1 =>
        Ev_item_list (Ev_name h1).r Ev_int (by decide) (get_head hd1) (by simp; omega) rfl
      refine Runs_nil (Runs_cons (Run1_if (EvT_cmp (item rfl) (Ev_nat 16) op_gtN) (fun hb => ?_) fun hb => ?_))
      · refine Runs_cons (Run1_return (Ev_tuple (EvAll_cons Ev_none (EvAll_cons Ev_none EvAll_nil))) ?_)
        rw [if_pos hb]; rfl
      rw [hb]
      simp only [Bool.false_eq_true, if_false]
      refine Runs_nil (Runs_cons (Run1_if (b := decide (d.headD 0 = 0) && ((!decide (p.length = 20)) && ((!decide (p.length = 32)) && true))) (EvT_bools (EvTs_and (EvT_cmp (item rfl) (Ev_nat 0) op_eqN) fun _ => EvTs_and (EvT_cmp (Ev_len B (Ev_name rfl).r (op_len_natl (by omega))) (Ev_nat 20) op_neN) fun _ => EvTs_and (EvT_cmp (Ev_len B (Ev_name rfl).r (op_len_natl (by omega))) (Ev_nat 32) op_neN) fun _ => EvTs_and_nil)) (fun hb => ?_) fun hb => ?_))
      · refine Runs_cons (Run1_return (Ev_tuple (EvAll_cons Ev_none (EvAll_cons Ev_none EvAll_nil))) ?_)
        rw [if_pos hb]; rfl
      rw [hb]
      exact Runs_nil (Runs_cons (Run1_return (Ev_tuple (EvAll_cons (item rfl) (EvAll_cons (Ev_name rfl) EvAll_nil)) (Nat.le_of_ble_eq_true rfl)) rfl))
end Mine

namespace Mine
variable {cx : Cx} {q : Bool} {n : Nat} {env : Env} {plain : List Str} {ρ : Ctxt} {ow : Option (Str × List PV)}

/-- encode, as a function upon lists -/
def textN (hrp : List Nat) (ver : Nat) (prog : List Nat) : List Nat := enc32N hrp (ver :: padC 8 5 prog)
def encN (hrp : List Nat) (ver : Nat) (prog : List Nat) : Option (List Nat) :=
  match decN hrp (textN hrp ver prog) with
  | none => none
  | some _ => some (textN hrp ver prog)
def textPV : Option (List Nat) → PV
  | none => .none
  | some s => strN s

theorem encode_plain : Plain "encode" ["hrp", "witver", "witprog"] where
  bind := fun pm cd doc vs h => by
    match vs, h with
    | [a, b, c], _ => rfl
  nd := by decide
  kind := fun x hx => by
    simp only [List.mem_cons, List.not_mem_nil, or_false] at hx
    rcases hx with rfl | rfl | rfl <;> exact .inl rfl
  cn := by decide
  co := rfl
  gen := rfl
  sk := rfl

theorem and_mask_lt (x : Nat) : x &&& maskN 5 < 32 := Nat.lt_succ_of_le Nat.and_le_right
theorem drainC_lt (acc : Nat) : ∀ (k bits : Nat) (ret : List Nat), (∀ v ∈ ret, v < 32) → ∀ v ∈ (drainC 5 acc k bits ret).2, v < 32
  | 0, bits, ret, h => h
  | k + 1, bits, ret, h => by
    unfold drainC
    split
    · refine drainC_lt acc k _ _ fun v hv => ?_
      rcases List.mem_append.mp hv with hv | hv
      · exact h v hv
      · simp only [List.mem_cons, List.not_mem_nil, or_false] at hv
        rw [hv]; exact and_mask_lt _
    · exact h
theorem convC_lt (data : List Nat) : ∀ v ∈ (convC 8 5 data).2.2, v < 32 := by
  have key : ∀ (l : List Nat) (st : Nat × Nat × List Nat), (∀ v ∈ st.2.2, v < 32) → ∀ v ∈ (l.foldl (stepC 8 5) st).2.2, v < 32 := by
    intro l
    induction l with
    | nil => intro st h; exact h
    | cons a l ih => intro st h; exact ih _ (drainC_lt _ _ _ _ h)
  exact key data _ fun v h => by cases h
theorem padC_lt (data : List Nat) : ∀ v ∈ padC 8 5 data, v < 32 := by
  intro v hv
  unfold padC at hv
  simp only at hv
  split at hv
  · rcases List.mem_append.mp hv with hv | hv
    · exact convC_lt data v hv
    · simp only [List.mem_cons, List.not_mem_nil, or_false] at hv
      rw [hv]; exact and_mask_lt _
  · exact convC_lt data v hv
theorem padC_length (data : List Nat) : (padC 8 5 data).length ≤ 2 * data.length := by
  obtain ⟨_, h2, h3⟩ := convC_inv (fb := 8) (tb := 5) (by decide) data
  unfold padC
  simp only
  split
  · rename_i hb
    have : (convC 8 5 data).2.1 ≠ 0 := by simpa using hb
    rw [List.length_append, List.length_singleton]; omega
  · omega

theorem Fn_encode (B : Base cx plain) (hf : ("encode" : Str) ∈ plain) (hf1 : ("decode" : Str) ∈ plain) (hf2 : ("bech32_encode" : Str) ∈ plain) (hf3 : ("bech32_create_checksum" : Str) ∈ plain) (hf0 : ("bech32_verify_checksum" : Str) ∈ plain) (hf4 : ("bech32_hrp_expand" : Str) ∈ plain) (hf5 : ("bech32_polymod" : Str) ∈ plain)
    (hrp prog : List Nat) (ver : Nat) (hl : hrp.length ≤ 200) (hv : ver < 32) (hp : prog.length ≤ 100) (hp8 : ∀ v ∈ prog, v < 256) :
    Fn cx false (n + 4) "encode" [strN hrp, .nat ver, natl prog] (textPV (encN hrp ver prog)) := by
  refine Fn_def B hf encode_plain rfl fun L a pm cd doc => ?_
  have hpl := padC_length prog
  have h32 : ∀ v ∈ ver :: padC 8 5 prog, v < 32 := fun v h => (List.mem_cons.mp h).elim (fun e => e ▸ hv) (padC_lt prog v)
  refine Runs_cons (Run1_assign (Ev_call B.ok (Fn_conv3 (n := n + 3) B (fb := 8) (tb := 5) (by decide) (by decide) prog (by omega) hp8) rfl (EvAll_cons (Ev_name rfl) (EvAll_cons (Ev_nat 8) (EvAll_cons (Ev_nat 5) EvAll_nil)))) (.inl rfl) ?_)
  refine Runs_cons (Run1_if (b := false) ((EvT_cmp (Ev_name (p := natl (padC 8 5 prog)) rfl) Ev_none op_is_none).to rfl) (fun hb => by cases hb) fun _ => ?_)
  have hlen : (textN hrp ver prog).length ≤ 900 := by
    have := createN_length hrp (ver :: padC 8 5 prog)
    simp only [textN, enc32N, List.length_append, List.length_map, this]
    simp; omega
  have h1 := (Fn_encode32 (cx := cx) (q := false) (n := n + 1) B hf2 hf3 hf4 hf5 hrp (ver :: padC 8 5 prog) (by omega) (by simp; omega) h32)
  have h2 := Fn_decode (n := n) B hf1 hf0 hf4 hf5 hrp (textN hrp ver prog) hlen
  refine Runs_nil (Runs_cons (Run1_assign (p := strN (textN hrp ver prog)) (Ev_call B.ok h1 rfl (EvAll_cons (Ev_name rfl) (EvAll_cons (Ev_binop (a := natl [ver]) (b := natl (padC 8 5 prog)) (Ev_list (EvAll_cons (Ev_name rfl) EvAll_nil) (Nat.le_of_ble_eq_true rfl)) (Ev_name rfl) (op_add_natl (by simp; omega))) EvAll_nil))) (.inl rfl) ?_))
  have he : encN hrp ver prog = match decN hrp (textN hrp ver prog) with | none => none | some _ => some (textN hrp ver prog) := rfl
  rw [he]
  clear he h1
  generalize decN hrp (textN hrp ver prog) = r at h2 ⊢
  refine Runs_cons (Run1_if (b := r.isNone) ((EvT_cmp (Ev_call B.ok h2 rfl (EvAll_cons (Ev_name rfl) (EvAll_cons (Ev_name rfl) EvAll_nil))) (Ev_tuple (EvAll_cons Ev_none (EvAll_cons Ev_none EvAll_nil))) (op_eq_dat (shaped_pair r) rfl)).to ?_) (fun hb => ?_) fun hb => ?_)
  · cases r <;> rfl
  · cases r with
    | none => exact Runs_cons (Run1_return Ev_none rfl)
    | some r => cases hb
  · cases r with
    | none => cases hb
    | some r => exact Runs_nil (Runs_cons (Run1_return (Ev_name rfl) rfl))
end Mine

namespace Mine
variable {cx : Cx} {q : Bool} {n : Nat} {env : Env} {plain : List Str} {ρ : Ctxt} {ow : Option (Str × List PV)}
local macro_rules | `(tactic| walk_at "has") => `(tactic| (repeat' first | exact Has_nil | refine Has_cons rfl ?_))
local macro_rules | `(tactic| walk_at "ow") => `(tactic| (intro y xs h; cases h; decide))

abbrev intl (l : List Int) : PV := .list (l.map PV.int)
def atN (script : List Int) (k : Nat) (other : Int) : Int := script.getD k other

theorem at_plain : Plain "_law_at" ["script", "k", "other"] where
  bind := fun pm cd doc vs h => by
    match vs, h with
    | [a, b, c], _ => rfl
  nd := by decide
  kind := fun x hx => by
    simp only [List.mem_cons, List.not_mem_nil, or_false] at hx
    rcases hx with rfl | rfl | rfl <;> exact .inl rfl
  cn := by decide
  co := rfl
  gen := rfl
  sk := rfl

theorem Fn_at (B : Base cx plain) (hf : ("_law_at" : Str) ∈ plain) (script : List Int) (k : Nat) (other : Int) (hl : script.length ≤ 1000) : Fn cx q n "_law_at" [intl script, .nat k, .int other] (.int (atN script k other)) := by
  refine Fn_def B hf at_plain rfl fun L a pm cd doc => ?_
  have ol : Op cx q n (fun vs => call (.builtin "len") vs) [intl script] (.nat script.length) := (op_len_list (by simpa using (by omega : script.length ≤ 100000))).to (by simp)
  refine Runs_cons (Run1_return (p := .int (atN script k other)) (Ev_if (EvT_cmp (Ev_len B (Ev_name rfl).r ol) (Ev_name rfl) op_gtN) (fun hb => ?_) fun hb => ?_) rfl)
  · have hb : k < script.length := of_decide_eq_true hb
    refine Ev_item_list (Ev_name (p := intl script) rfl).r (Ev_name (p := .nat k) rfl) (by omega) ?_ (by simpa using (by omega : script.length ≤ 100000)) rfl
    simp [atN, List.getElem?_eq_getElem hb]
  · have hb : ¬ k < script.length := of_decide_eq_false hb
    have : atN script k other = other := by
      unfold atN
      rw [List.getD_eq_getElem?_getD, List.getElem?_eq_none (by omega)]; rfl
    rw [this]
    exact Ev_name rfl

/-- _law_digits -/
def loopD (base : Nat) : Nat → Nat → List Nat → List Nat
  | 0, _, ds => ds
  | k + 1, m, ds => if base ≤ m then loopD base k (m / base) (ds ++ [m / base % base]) else ds
def digitsN (base most : Nat) (i : Int) : List Nat := loopD base (most - 1) i.natAbs [i.natAbs % base]

theorem loopD_of {base : Nat} (h : 1 ≤ base) : ∀ (k m : Nat) (ds : List Nat), (∀ d ∈ ds, d < base) → ds.length ≤ (loopD base k m ds).length ∧ (loopD base k m ds).length ≤ ds.length + k ∧ ∀ d ∈ loopD base k m ds, d < base
  | 0, m, ds, hd => ⟨Nat.le_refl _, Nat.le_refl _, hd⟩
  | k + 1, m, ds, hd => by
    unfold loopD
    split
    · obtain ⟨h1, h2, h3⟩ := loopD_of h k (m / base) (ds ++ [m / base % base]) fun d hd' => by
        rcases List.mem_append.mp hd' with hd' | hd'
        · exact hd d hd'
        · simp only [List.mem_cons, List.not_mem_nil, or_false] at hd'
          rw [hd']; exact Nat.mod_lt _ h
      simp only [List.length_append, List.length_singleton] at h1 h2
      exact ⟨by omega, by omega, h3⟩
    · exact ⟨Nat.le_refl _, by omega, hd⟩
theorem digitsN_of {base most : Nat} (h : 1 ≤ base) (hm : 1 ≤ most) (i : Int) : 1 ≤ (digitsN base most i).length ∧ (digitsN base most i).length ≤ most ∧ ∀ d ∈ digitsN base most i, d < base := by
  obtain ⟨h1, h2, h3⟩ := loopD_of h (most - 1) i.natAbs [i.natAbs % base] fun d hd => by
    simp only [List.mem_cons, List.not_mem_nil, or_false] at hd
    rw [hd]; exact Nat.mod_lt _ h
  simp only [List.length_singleton] at h1 h2
  exact ⟨h1, by unfold digitsN; omega, h3⟩

theorem digits_plain : Plain "_law_digits" ["number", "base", "most"] where
  bind := fun pm cd doc vs h => by
    match vs, h with
    | [a, b, c], _ => rfl
  nd := by decide
  kind := fun x hx => by
    simp only [List.mem_cons, List.not_mem_nil, or_false] at hx
    rcases hx with rfl | rfl | rfl <;> exact .inl rfl
  cn := by decide
  co := rfl
  gen := rfl
  sk := rfl

theorem Fn_digits (B : Base cx plain) (hf : ("_law_digits" : Str) ∈ plain) (i : Int) (base most : Nat) (hb : 1 ≤ base ∧ base < 1000) (hm : 1 ≤ most ∧ most ≤ 1000) : Fn cx q n "_law_digits" [.int i, .nat base, .nat most] (natl (digitsN base most i)) := by
  refine Fn_def B hf digits_plain rfl fun L a pm cd doc => ?_
  refine Runs_cons (Run1_assign (p := .nat i.natAbs) ((Ev_call_builtin B.ok rfl (B.nob _ (by decide)) rfl (EvAll_cons (Ev_name rfl) EvAll_nil) op_abs).to ?_) (.inl rfl) ?_)
  · congr 1; split <;> omega
  refine Runs_cons (Run1_own (xs := [i.natAbs % base].map PV.nat) (EvF_list (EvAll_cons (Ev_binop (Ev_name rfl) (Ev_name rfl) (op_modN (by omega))) EvAll_nil) (Nat.le_of_ble_eq_true rfl)) natl_scalar (.inl rfl) ?_)
  refine Runs_cons (Run1_while (fun k ρ ow => ∃ m ds, loopD base k m ds = digitsN base most i ∧ ds.length + k = most ∧ ow = some (("digits" : Str), ds.map PV.nat) ∧ Has ρ [("number", .nat m), ("base", .nat base), ("most", .nat most)]) (most - 1)
    ⟨i.natAbs, [i.natAbs % base], rfl, by simp; omega, rfl, by walk_at "has"⟩ ?_)
  rintro k ρ ow ⟨m, ds, hds, hk, rfl, hH⟩
  refine ⟨decide (base ≤ m) && (decide (ds.length < most) && true), EvT_bools (EvTs_and (EvT_cmp (Ev_name (hH _ _ rfl)) (Ev_name (hH _ _ rfl)) op_geN) fun _ => EvTs_and (EvT_cmp (Ev_len B (EvR_own rfl) (op_len_natl (by omega))) (Ev_name (hH _ _ rfl)) op_ltN) fun _ => EvTs_and_nil), fun ht => ?_, fun ht => ?_⟩
  · simp only [Bool.and_true, Bool.and_eq_true, decide_eq_true_eq] at ht
    obtain ⟨k, rfl⟩ : ∃ k', k = k' + 1 := ⟨k - 1, by omega⟩
    refine Runs_weak hH ?_
    refine Runs_cons (Run1_assign (p := .nat (m / base)) (Ev_binop (Ev_name rfl) (Ev_name rfl) (op_divN (by omega) (by omega))) (.inl rfl) ?_ (by walk_at "ow"))
    refine Runs_cons (Run1_append (p := .nat (m / base % base)) (Ev_binop (Ev_name rfl) (Ev_name rfl) (op_modN (by omega))) rfl (by simpa using (by omega : ds.length ≤ 100000)) ?_)
    refine Runs_nil ⟨k, Nat.lt_succ_self k, m / base, ds ++ [m / base % base], ?_, by simp; omega, by simp, by walk_at "has"⟩
    rw [← hds]
    conv => rhs; unfold loopD
    rw [if_pos ht.1]
  · refine Runs_cons (Run1_return_own ?_)
    have e : loopD base k m ds = ds := by
      cases k with
      | zero => rfl
      | succ k =>
        unfold loopD
        rw [if_neg]
        intro hm'
        simp only [Bool.and_true, Bool.and_eq_false_iff, decide_eq_false_iff_not] at ht
        omega
    show _ = natl _
    rw [← hds, e]
end Mine

namespace Mine
variable {cx : Cx} {q : Bool} {n : Nat} {env : Env} {ρ : Ctxt} {ow : Option (Str × List PV)} {s₀ s : Shared} {W₀ : Addr → Prop} {oa : Option Addr}

/-- x = [elt for ..], a list which the frame will write -/
theorem Run1_own_comp {elt iter : Expr} {x y : Str} {px py cpos pos : Pos} {scope : Scope} {cl : List (Str × Addr)} {ps : List PV} {ρc : Ctxt} {Φ : Out → Prop} (f : PV → PV) (hit : EvIter cx q n env ρ none iter ps) (H : CompEnv scope env cl ρ ρc x) (hsz : ps.length ≤ 100000)
    (helt : ∀ C, ∀ p ∈ ps, Ev cx true n (compEnvC scope cl C env) ((x, p) :: ρc) none elt (f p)) (hsc : ∀ p ∈ ps, (f p).scalar = true) (hy : env.kindOf y = some .local) (hΦ : Φ (.next (without y ρ) (some (y, ps.map f))))
    (hsw : swapsWith (.ListComp elt [⟨.Name x px, iter, [], 0⟩] scope cpos) (some (.Name y py)) pos.line env = pure true := by rfl) (hs : ∀ x, foldedSetIterable iter env x = pure x := by intro _; rfl) :
    Run1 cx q n env ρ none (.Assign [.Name y py] (.ListComp elt [⟨.Name x px, iter, [], 0⟩] scope cpos) pos) Φ := fun A s s₀ W₀ oa E hA F => by
  have S := F.es
  have hoa : oa = none := by
    cases oa with
    | none => rfl
    | some b => obtain ⟨_, x, xs, e, _⟩ := F.own b rfl; cases e
  subst hoa
  refine wpAny_Assign_ListComp_free (fun _ => true) (fun v y => ∀ p ∈ ps, SRep v p → SRep y (f p)) hsw H.clos H.cell H.kind H.names H.hx hy (by rw [F.kind]; rfl) (wpAny_mono (hit A s _ E hA S) (fun xv s₁ h₁ => wpAny_mono h₁ (fun it s₂ h₂ => ?_) fun _ _ e => e) fun _ _ e => e) hs
  obtain ⟨r2, I, fp, wr, P, St, X⟩ := h₂
  have F2 := F.step r2
  obtain ⟨m, hm⟩ := id F2.ns
  have hLw : env.locals ∉ wr := fun z => by
    obtain ⟨m, o, _, _, e, _⟩ := F.ns
    rw [X.wrn _ z] at e; cases e
  refine ⟨I, fp, wr, ps.length, P, St, m, X.ref, X.walks A hA.hh, by rw [sizeLine_eq]; omega, X.start, fun b hb => ?_, hLw, hm, ⟨fun C i v s₃ m₃ E' hC hv hn hm hk htk => wpAny_tests_nil ⟨rfl, s₃.heap, s₃.toks, rfl, fun _ _ e => e⟩, fun C i v s₃ m₃ E' hC hv _ hn hm hk htk => ?_⟩, fun D h' tk ys vs hD hl hpl hlen hP hF hns hk => ?_⟩
  · obtain ⟨o, e⟩ := (X.ex 0 _ X.start).1 b hb
    exact Heap.lt_size e
  · obtain ⟨p, hp, sr⟩ := X.item i v hv
    have hpm := List.mem_of_getElem? hp
    refine wpAny_mono (helt C p hpm A s₃ _ E' hA (compES H S r2 X.wrn hn hm sr hk)) (fun y s₄ h₄ => ⟨fun p' hp' sr' => ?_, h₄.1.keeps⟩) fun _ _ e => e
    have : p' = p := by
      have h1 := sr.2 noW {}
      have h2 := sr'.2 noW {}
      cases h1 <;> cases h2 <;> first | rfl | cases sr.1
    subst this
    exact h₄.2.srep (hsc _ hp')
  · rw [filter_true] at hF
    obtain ⟨k, g⟩ := hpl
    have hD' : s.heap.get? D = none := r2.back S.vs.ok hD
    have D₀ : s₀.heap.get? D = none := F.rel.back F.ok₀ hD'
    have L₀ : s₀.heap.get? env.locals = none := none_of_le F.fresh
    have wseq : ∀ b ∈ wr, ∀ o, s₂.heap.get? b = some o → ¬ IsSeq o := fun b hb => ((X.ex 0 _ X.start).2 b hb).2
    have ks : ∀ W, KeepSeq W s₂.heap h' := fun W b o _ e q => hk b _ (fun z => by
      obtain ⟨m, o, _, _, e1, e2, _⟩ := F2.ns
      obtain ⟨_, _, d⟩ := q
      rw [← z, e] at e1; cases e1
      rw [e2] at d; cases d) (fun z => wseq b z _ e q) e
    have kc : ∀ {nm c v}, (nm, c) ∈ env.cells → s₂.heap.IsCell c v → h'.IsCell c v := fun hm h => by
      obtain ⟨o, e, d⟩ := h
      refine ⟨o, hk _ o (Nat.ne_of_gt (F.cl.above _ _ hm)) (fun z => ?_) e, d⟩
      obtain ⟨v, o, e, _⟩ := F.cl.cell _ _ hm
      rw [X.wrn _ z] at e; cases e
    have kv : ∀ {z v}, z ≠ y → VarIs s₂.heap env z v → VarIs h' env z v := fun hz h => by
      rcases h with ⟨a, m₂, b, e⟩ | ⟨a, c, b, e⟩
      · refine .inl ⟨a, _, hns, ?_⟩
        show (if _ = y then _ else m _) = _
        rw [if_neg hz, ← e]; exact hm.agree b _
      · exact .inr ⟨a, c, b, kc (mem_of_lookup b) e⟩
    have hD2 : s₂.heap.get? D = none := hD
    have hl3 : RepAll noW h' ys.toList (ps.map f) := comp_items hlen (fun j v hj => X.item j v (hP j v hj)) hF _ _
    have hscal : ∀ p ∈ ps.map f, p.scalar = true := fun p hp => by
      obtain ⟨p', hp', rfl⟩ := List.mem_map.mp hp
      exact hsc p' hp'
    have F3 : FS cx q s₀ W₀ env (without y ρ) (some (y, ps.map f)) (some D) { s₂ with heap := h', toks := tk } := by
      refine ⟨F2.ok₀, F2.rel.but F2.ok₀ (wr := env.locals :: wr) (fun b hb => ?_) fun b o hb e => ?_, F2.prot₀, F2.kind, F2.globals, F2.builtins, F2.fresh, ⟨_, hns⟩,
        ⟨fun nm c e => let ⟨v, h⟩ := F2.cl.cell nm c e; ⟨v, kc e h⟩, F2.cl.apart, F2.cl.above⟩, fun z p e => ?_, fun a e => ?_, fun _ => rfl⟩
      · rcases List.mem_cons.mp hb with rfl | hb
        · exact L₀
        · exact F.rel.back F.ok₀ (X.wrn b hb)
      · exact hk b o (fun z => hb (z ▸ List.mem_cons_self ..)) (fun z => hb (List.mem_cons_of_mem _ z)) e
      · obtain ⟨hz, e'⟩ := without_lookup e
        obtain ⟨u, hu, ru⟩ := F2.vars z p e'
        exact ⟨u, kv hz hu, ((ru.newAt hD2).mono (ks _)).weak fun b o _ w z => w (z.elim (fun z => .inl (.inl z)) fun z => .inr (Option.some.inj z).symm)⟩
      · cases e
        exact ⟨D₀, y, ps.map f, rfl, .inl ⟨hy, _, hns, by simp⟩, _, k, g, scalars_weak hl3 hscal⟩
    refine ⟨_, _, some D, hΦ, F3, fun b o hmu hP' e => ?_, fun b e => by cases e; exact .inr hD'⟩
    exact hk b o (fun z => hmu (.inl z)) (fun z => by rw [X.wrn b z] at e; cases e) (r2.keep b o hP' e)

theorem Run1_own_compL {elt iter : Expr} {x y : Str} {px py cpos pos : Pos} {scope : Scope} {cl : List (Str × Addr)} {ρc : Ctxt} {Φ : Out → Prop} {α : Type} {l : List α} {g f : α → PV} (hit : EvIter cx q n env ρ none iter (l.map g)) (H : CompEnv scope env cl ρ ρc x) (hsz : l.length ≤ 100000)
    (helt : ∀ C, ∀ a ∈ l, Ev cx true n (compEnvC scope cl C env) ((x, g a) :: ρc) none elt (f a)) (hsc : ∀ a ∈ l, (f a).scalar = true) (hg : ∀ a b, g a = g b → a = b) (hy : env.kindOf y = some .local) (hΦ : Φ (.next (without y ρ) (some (y, l.map f))))
    (hsw : swapsWith (.ListComp elt [⟨.Name x px, iter, [], 0⟩] scope cpos) (some (.Name y py)) pos.line env = pure true := by rfl) (hs : ∀ x, foldedSetIterable iter env x = pure x := by intro _; rfl) :
    Run1 cx q n env ρ none (.Assign [.Name y py] (.ListComp elt [⟨.Name x px, iter, [], 0⟩] scope cpos) pos) Φ := by
  have hg' : ∀ a ∈ l, ∀ b ∈ l, g a = g b → f a = f b := fun a _ b _ h => by rw [hg a b h]
  rw [← through_map hg'] at hΦ
  refine Run1_own_comp _ hit H (by simpa using hsz) (fun C p hp => ?_) (fun p hp => ?_) hy hΦ hsw hs
  all_goals
    obtain ⟨a, ha, rfl⟩ := List.mem_map.mp hp
    rw [through_at hg' ha]
  · exact helt C a ha
  · exact hsc a ha
end Mine

namespace Mine
variable {cx : Cx} {q : Bool} {n : Nat} {env : Env} {plain : List Str} {ρ : Ctxt} {ow : Option (Str × List PV)}

/-- which names are let -/
def fitC (c : Nat) : Prop := 33 ≤ c ∧ c ≤ 126 ∧ ¬ (65 ≤ c ∧ c ≤ 90)
def GoodH (h : List Nat) : Prop := 1 ≤ h.length ∧ h.length ≤ 83 ∧ ∀ c ∈ h, fitC c
def BadH (h : List Nat) : Prop := h.length = 0 ∨ 84 ≤ h.length ∨ ∃ c ∈ h, ¬ fitC c
def Prog (p : List Nat) : Prop := 2 ≤ p.length ∧ p.length ≤ 40 ∧ ∀ v ∈ p, v < 256
def Ver (v : Nat) : Prop := 1 ≤ v ∧ v ≤ 16

/-- what the two laws lean on -/
structure Codec : Prop where
  bad : ∀ h v p, BadH h → Ver v → Prog p → encN h v p = none
  good : ∀ h v p, GoodH h → Ver v → Prog p → decB (textN h v p) = some (h, v :: padC 8 5 p)
  up : ∀ h v p, GoodH h → Ver v → Prog p → decB (upN (textN h v p)) = some (h, v :: padC 8 5 p)
  strict : ∀ p, Prog p → strictC 5 8 (padC 8 5 p) = some p

theorem decN_of {asked s h p : List Nat} {v : Nat} (e : decB s = some (h, v :: padC 8 5 p)) (hs : strictC 5 8 (padC 8 5 p) = some p) (hv : Ver v) (hp : Prog p) : decN asked s = if (h != asked) = true then none else some (v, p) := by
  obtain ⟨v1, v2⟩ := hv
  obtain ⟨p1, p2, _⟩ := hp
  unfold decN
  rw [e]
  show (if (h != asked) = true then none else match strictC 5 8 (padC 8 5 p) with
    | none => none
    | some p => if (decide (p.length < 2) || (decide (40 < p.length) || false)) = true then none else if decide (16 < v) = true then none else
      if (decide (v = 0) && ((!decide (p.length = 20)) && ((!decide (p.length = 32)) && true))) = true then none else some (v, p)) = _
  rw [hs]
  simp only
  split
  · rfl
  · have e1 : (decide (p.length < 2) || (decide (40 < p.length) || false)) = false := by simp; omega
    rw [if_neg (by rw [e1]; decide), if_neg (by simp; omega), if_neg (by simp; omega)]
theorem encN_good (K : Codec) {h p : List Nat} {v : Nat} (hh : GoodH h) (hv : Ver v) (hp : Prog p) : encN h v p = some (textN h v p) := by
  unfold encN
  rw [decN_of (K.good h v p hh hv hp) (K.strict p hp) hv hp]
  have : (h != h) = false := by simp
  rw [this]; rfl

theorem eqv_nats : ∀ l : List Nat, PyData.eqvAll (PV.dat.datAll (l.map PV.nat)) (PV.dat.datAll (l.map PV.nat)) = true
  | [] => rfl
  | a :: l => by simp only [List.map_cons, PV.dat.datAll, PyData.eqvAll, PV.dat, PyData.eqv, eqv_nats l, BEq.rfl, Bool.and_self]
theorem eqv_pair : ∀ r : Option (Nat × List Nat), PyData.eqv (pairPV r).dat (pairPV r).dat = true
  | none => rfl
  | some (v, p) => by
    simp only [pairPV, PV.dat, PV.dat.datAll, PyData.eqv, PyData.eqvAll, eqv_nats, BEq.rfl, Bool.and_self]

theorem op_modI {a : Int} {b : Nat} (h : 0 < b) : Op cx q n (bop .Mod) [.int a, .nat b] (.nat (a.fmod b).toNat) := (op_fmod (by omega)).to (by
  have : 0 ≤ a.fmod (b : Int) := Int.fmod_nonneg_of_pos a (by omega)
  show PV.int _ = PV.int _
  congr 1; omega)
theorem modI_lt {a : Int} {b : Nat} (h : 0 < b) : (a.fmod b).toNat < b := by
  have h1 : 0 ≤ a.fmod (b : Int) := Int.fmod_nonneg_of_pos a (by omega)
  have h2 : a.fmod (b : Int) < b := Int.fmod_lt_of_pos a (by omega)
  omega
theorem op_divI {a : Int} {b : Nat} (h : 0 < b) (hs : b < 1073741824) : Op cx q n (bop .FloorDiv) [.int a, .nat b] (.int (a.fdiv b)) := op_fdiv (by omega) (by omega)

theorem Ev_item_natl {value slice : Expr} {pos : Pos} {l : List Nat} {k c : Nat} (hv : EvR cx q n env ρ ow value (natl l)) (hi : Ev cx q n env ρ ow slice (.nat k)) (h : l[k]? = some c) (hsz : l.length ≤ 100000)
    (hsu : ∀ o i, subscripted slice false o i = operate [o, i] (getItem o i) := by intro _ _; rfl) : Ev cx q n env ρ ow (.Subscript value slice pos) (.nat c) :=
  Ev_item_list hv hi (by omega) (by simp [h]) (by simpa using hsz) rfl hsu
theorem Ev_item_ones {value slice : Expr} {pos : Pos} {l : List Nat} {k c : Nat} (hv : EvR cx q n env ρ ow value (.list (l.map oneN))) (hi : Ev cx q n env ρ ow slice (.nat k)) (h : l[k]? = some c) (hsz : l.length ≤ 100000)
    (hsu : ∀ o i, subscripted slice false o i = operate [o, i] (getItem o i) := by intro _ _; rfl) : Ev cx q n env ρ ow (.Subscript value slice pos) (oneN c) :=
  Ev_item_list hv hi (by omega) (by simp [h]) (by simpa using hsz) rfl hsu
theorem Ev_chr {e : Expr} {xp pos : Pos} {c : Nat} (B : Base cx plain) (h : Ev cx q n env ρ ow e (.nat c)) (hc : c ≤ 1114111) (hk : env.kindOf "chr" = some .globalImplicit := by rfl)
    (he : ∀ env, starEach [e] env = (false, eval e env) :: starEach [] env := by intro _; rfl) (hplain : ∀ pos env, (backTo pos (starEach [e] env)).any (·.1) = false := by intro _ _; rfl) :
    Ev cx q n env ρ ow (.Call (.Name "chr" xp) [e] [] pos) (oneN c) :=
  Ev_call_builtin B.ok hk (B.nob _ (by decide)) rfl (EvAll_cons h EvAll_nil he) (op_chr (by omega) (by omega)) he hplain
theorem ones_scalar {l : List Nat} : ∀ p ∈ l.map oneN, p.scalar = true := fun p h => by
  obtain ⟨a, _, rfl⟩ := List.mem_map.mp h; rfl
theorem op_len_ones {l : List Nat} (h : l.length ≤ 100000) : Op cx q n (fun vs => call (.builtin "len") vs) [.list (l.map oneN)] (.nat l.length) := (op_len_list (by simpa using h)).to (by simp)

def nameC (k : Nat) : Nat := if k < 32 then 33 + k else 59 + k
theorem nameC_fit {k : Nat} (h : k < 68) : fitC (nameC k) := by
  unfold nameC fitC; split <;> omega
theorem Ev_nameC {xp kp kp' kp'' p1 p2 p3 p4 p5 p6 pos : Pos} {k1 k2 k3 : Nat} {k : Nat} (B : Base cx plain) (hk : ρ.lookup ("k" : Str) = some (.nat k)) (hlt : k < 1000) (hkk : env.kindOf "chr" = some .globalImplicit := by rfl) :
    Ev cx q n env ρ ow (.Call (.Name "chr" xp) [.IfExp (.Compare (.Name "k" kp) [.Lt] [.Constant (.int 32) k1 p1] p2) (.BinOp (.Constant (.int 33) k2 p3) .Add (.Name "k" kp') p4) (.BinOp (.Constant (.int 59) k3 p5) .Add (.Name "k" kp'') p6) pos] [] pos) (oneN (nameC k)) := by
  refine Ev_chr B (Ev_if (EvT_cmp (Ev_name hk) (Ev_nat 32) op_ltN) (fun hb => ?_) fun hb => ?_) (by unfold nameC; split <;> omega) hkk
  · have : k < 32 := of_decide_eq_true hb
    unfold nameC; rw [if_pos this]
    exact Ev_binop (Ev_nat 33) (Ev_name hk) op_addN
  · have : ¬ k < 32 := of_decide_eq_false hb
    unfold nameC; rw [if_neg this]
    exact Ev_binop (Ev_nat 59) (Ev_name hk) op_addN
end Mine

namespace Mine
variable {cx : Cx} {q : Bool} {n : Nat} {env : Env} {ρ : Ctxt} {ow : Option (Str × List PV)} {s₀ s : Shared} {W₀ : Addr → Prop} {oa : Option Addr}

/-- y = [elt for x in ..], y a local name, each elt a new list -/
theorem assign_lists {prog : Program} {w : World} {A : Around} {E : Value → Shared → Prop} {elt iter : Expr} {x y : Str} {px py : Pos} {scope : Scope} {cl : List (Str × Addr)} {pos spos : Pos} {Q : Flow → Shared → Prop} (G : Value → Array Value → Prop)
    (hsw : swapsWith (.ListComp elt [⟨.Name x px, iter, [], 0⟩] scope pos) (some (.Name y py)) spos.line env = pure true)
    (hclos : closureFor scope env = pure cl) (hcell : ∀ z ∈ scope.names, z.2 ≠ .cell) (hkind : scope.kind = .function) (hnames : ∀ z ∈ scope.names, z.2 = .local → scope.names.lookup z.1 = some .local) (hx : scope.names.lookup x = some .local)
    (hy : env.kindOf y = some .local) (hp : (env.scope.kind == .class || (env.scope.kind == .module && env.locals != env.globals)) = false)
    (h : wpAny (model prog w) A (eval iter env) (fun xv s₁ => wpAny (model prog w) A (pyIter xv) (fun it s₂ => ∃ I fp wr n P St m, it = .ref I ∧ Walks prog w A I fp wr n P St ∧ n ≤ sizeLine ∧ (∀ i h, St i h → ∀ b ∈ wr, ∃ o, h.get? b = some o) ∧ St 0 s₂.heap ∧ (∀ b ∈ fp, b < s₂.heap.objs.size) ∧
      env.locals ∉ wr ∧ s₂.heap.Ns env.locals m ∧ QuietOnCO prog w A env scope cl x [] elt wr P (fun _ => true) G s₂ ∧
      (∀ D h' tk ys (vs : List Value), s₂.heap.get? D = none → h'.PlainList D ys → vs.length = n → (∀ j v, vs[j]? = some v → P j v) → Paired (LstIs s₂.heap G h') vs ys.toList →
        h'.Ns env.locals (fun z => if z = y then some (.ref D) else m z) → (∀ b o, b ≠ env.locals → b ∉ wr → s₂.heap.get? b = some o → h'.get? b = some o) → Q .next { s₂ with heap := h', toks := tk })) E s₁) E s)
    (hs : ∀ x, foldedSetIterable iter env x = pure x) :
    wpAny (model prog w) A (exec (.Assign [.Name y py] (.ListComp elt [⟨.Name x px, iter, [], 0⟩] scope pos) spos) env) Q E s := by
  rw [exec_Assign_Name_used _ _ _ _ hsw]
  refine wpAny_bind (wpAny_standAt (wpAny_bind ?_))
  show wpAny _ A (do let _ ← comprehension (.ListComp elt [⟨.Name x px, iter, [], 0⟩] scope pos) scope env _ (newList []) false (eval iter env) (some (assign (.Name y py) env))) _ _ s
  refine wpAny_bind (wpAny_mono (wpAny_comprehension_free (use := some (assign (.Name y py) env)) (Q := fun _ s' => Q .next s') rfl hs hclos hkind hnames
    (wpAny_mono h (fun xv s₁ h₁ => wpAny_mono h₁ (fun it s₂ h₂ => ?_) fun _ _ e => e) fun _ _ e => e)) (fun _ s' hq => wpAny_pure (wpAny_pure hq)) fun _ _ e => e)
  obtain ⟨I, fp, wr, n, P, St, m, rfl, W, hsz, hlive, hst, hfp, hLf, hn, hq, hQ⟩ := h₂
  refine comp_block_walkCO (RR := fun acc C => compPost (model prog w) A E (some (assign (.Name y py) env)) (fun _ s' => Q .next s') acc C) W hsz (fun _ => true) G hlive hcell hkind hx hst hfp hq ?_
  intro D C h' tk m' ys vs hD hC hDC hnC _ hplD hlen hP hF _ hk
  obtain ⟨oL, _, _, eL, _⟩ := id hn
  have hLC : env.locals ≠ C := by rintro rfl; rw [hC] at eL; cases eL
  have hLD : env.locals ≠ D := by rintro rfl; rw [hD] at eL; cases eL
  show wpAny _ A (assign (.Name y py) env (.ref D)) _ _ _
  refine wpAny_assign_Name (wpAny_storeName_local hy (hn.at' fun o e => hk _ o hLf e) (fun h₂ hn₂ hs₂ => ?_) hp)
  refine ⟨m', hnC.sameBut hs₂ (Ne.symm hLC), fun h₃ hs₃ => ?_⟩
  refine hQ D h₃ _ ys vs hD ((hplD.extBut hs₂.extBut (Ne.symm hLD)).extBut hs₃.extBut hDC) hlen hP ?_ (hn₂.sameBut hs₃ hLC) fun b o hbL hbf e => hs₃.extBut b o (by rintro rfl; rw [hC] at e; cases e) (hs₂.extBut b o hbL (hk b o hbf e))
  rw [filter_true] at hF
  exact hF.mono fun _ _ hy => by
    obtain ⟨T, its, rfl, h1, hTC, _, _, hlT, hG⟩ := hy
    exact ⟨T, its, rfl, h1, (hlT.extBut hs₂.extBut (by rintro rfl; rw [h1] at eL; cases eL)).extBut hs₃.extBut hTC, hG⟩

/-- an expression that is a new list of scalars -/
theorem new_list {elt : Expr} {xs : List PV} {A : Around} {t : Shared} {E : Value → Shared → Prop} {e : Env} {r : Ctxt} (h : Ev cx true n e r none elt (.list xs)) (hr : ∀ x p, r.lookup x = some p → p.scalar = true) (hA : AOK n A) (S : ES cx true noW e r none t) (hsc : ∀ p ∈ xs, p.scalar = true) :
    wpAny (model cx.prog cx.w) A (eval elt e) (fun y s₄ => (∃ T its, y = .ref T ∧ t.heap.get? T = none ∧ s₄.heap.IsList T its ∧ ∀ W h, RepAll W h its.toList xs) ∧ Keeps t s₄) E t := by
  let W : Addr → Prop := fun b => ∃ T items n, t.heap.get? b = some (seqObj T items n)
  have S' : ES cx true W e r none t := ⟨⟨S.vs.ok, fun b hb => hb⟩, S.kind, S.globals, S.builtins, fun x p ex => let ⟨v, a, b⟩ := S.vars x p ex; ⟨v, a, b.scalar (hr x p ex)⟩, fun x xs e => (nomatch e)⟩
  refine wpAny_mono (h A t W E hA S') (fun y s₄ h₄ => ?_) fun _ _ e => e
  obtain ⟨r4, k⟩ := h₄
  cases k with | list w g rr =>
  refine ⟨⟨_, _, rfl, ?_, ⟨_, g, rfl, _, rfl⟩, fun W' h' => scalars_weak' rr hsc⟩, r4.keeps⟩
  rename_i a items k
  cases e1 : t.heap.get? a with
  | none => rfl
  | some o =>
    have := r4.keep a o (.inl rfl) e1
    rw [g] at this; cases this
    exact absurd ⟨_, _, _, e1⟩ w
where
  scalars_weak' {W W' : Addr → Prop} {h h' : Heap} {vs : List Value} {ps : List PV} (r : RepAll W h vs ps) (hs : ∀ p ∈ ps, p.scalar = true) : RepAll W' h' vs ps := by
    induction vs generalizing ps with
    | nil => cases r; exact .nil
    | cons v vs ih => cases r with | cons a b => exact .cons (a.scalar (hs _ (List.mem_cons_self ..))) (ih b fun p hp => hs p (List.mem_cons_of_mem _ hp))

theorem comp_lists {f : PV → List PV} {h₁ h : Heap} {W : Addr → Prop} (hW : ∀ b, W b → ∃ o, h₁.get? b = some o) : ∀ {vs ys : List Value} {ps : List PV}, vs.length = ps.length → (∀ (j : Nat) (v : Value), vs[j]? = some v → ∃ p, ps[j]? = some p ∧ SRep v p) →
    Paired (LstIs h₁ (fun v its => ∀ p, SRep v p → ∀ W h, RepAll W h its.toList (f p)) h) vs ys → RepAll W h ys (ps.map fun p => .loose (f p)) := by
  intro vs ys ps hl hv hp
  induction hp generalizing ps with
  | nil => cases ps with
    | nil => exact .nil
    | cons => cases hl
  | cons a b ih =>
    cases ps with
    | nil => cases hl
    | cons p ps =>
      obtain ⟨p', hp', sr⟩ := hv 0 _ rfl
      simp only [List.getElem?_cons_zero, Option.some.injEq] at hp'
      subst hp'
      obtain ⟨T, its, rfl, h1, ⟨o, e, c, m, d⟩, hG⟩ := a
      exact .cons (.loose (fun w => by obtain ⟨o', e'⟩ := hW T w; rw [h1] at e'; cases e') e c d (hG _ sr _ _)) (ih (by simpa using hl) fun j v hj => by simpa using hv (j + 1) v (by simpa using hj))

theorem Run1_assign_lists {elt iter : Expr} {x y : Str} {px py cpos pos : Pos} {scope : Scope} {cl : List (Str × Addr)} {ps : List PV} {Φ : Out → Prop} (f : PV → List PV) (hit : EvIter cx q n env ρ ow iter ps) (H : CompEnv scope env cl ρ [] x) (hsz : ps.length ≤ 100000)
    (helt : ∀ C, ∀ p ∈ ps, Ev cx true n (compEnvC scope cl C env) [(x, p)] none elt (.list (f p))) (hpsc : ∀ p ∈ ps, p.scalar = true) (hsc : ∀ p ∈ ps, ∀ z ∈ f p, z.scalar = true) (hy : env.kindOf y = some .local) (hΦ : Φ (.next ((y, .list (ps.map fun p => .loose (f p))) :: ρ) ow)) (hox : ∀ z xs, ow = some (z, xs) → z ≠ y := by intro _ _ h; cases h)
    (hsw : swapsWith (.ListComp elt [⟨.Name x px, iter, [], 0⟩] scope cpos) (some (.Name y py)) pos.line env = pure true := by rfl) (hs : ∀ x, foldedSetIterable iter env x = pure x := by intro _; rfl) :
    Run1 cx q n env ρ ow (.Assign [.Name y py] (.ListComp elt [⟨.Name x px, iter, [], 0⟩] scope cpos) pos) Φ := fun A s s₀ W₀ oa E hA F => by
  have S := F.es
  refine assign_lists (fun v its => ∀ p, SRep v p → ∀ W h, RepAll W h its.toList (f p)) hsw H.clos H.cell H.kind H.names H.hx hy (by rw [F.kind]; rfl) (wpAny_mono (hit A s _ E hA S) (fun xv s₁ h₁ => wpAny_mono h₁ (fun it s₂ h₂ => ?_) fun _ _ e => e) fun _ _ e => e) hs
  obtain ⟨r2, I, fp, wr, P, St, X⟩ := h₂
  have F2 := F.step r2
  obtain ⟨m, hm⟩ := id F2.ns
  have hLw : env.locals ∉ wr := fun z => by
    obtain ⟨m, o, _, _, e, _⟩ := F.ns
    rw [X.wrn _ z] at e; cases e
  refine ⟨I, fp, wr, ps.length, P, St, m, X.ref, X.walks A hA.hh, by rw [sizeLine_eq]; omega, fun i h st b hb => (X.ex i h st).1 b ((X.ex i h st).2 b hb).1, X.start, fun b hb => ?_, hLw, hm, ⟨fun C i v s₃ m₃ E' hC hv hn hm hk htk => wpAny_tests_nil ⟨rfl, s₃.heap, s₃.toks, rfl, fun _ _ e => e⟩, fun C i v s₃ m₃ E' hC hv _ hn hm hk htk => ?_⟩, fun D h' tk ys vs hD hpl hlen hP hF hns hk => ?_⟩
  · obtain ⟨o, e⟩ := (X.ex 0 _ X.start).1 b hb
    exact Heap.lt_size e
  · obtain ⟨p, hp, sr⟩ := X.item i v hv
    have hpm := List.mem_of_getElem? hp
    have hES := compES H S r2 X.wrn hn hm sr hk
    have hone : ∀ y' p', List.lookup y' [(x, p)] = some p' → p'.scalar = true := fun y' p' e => by
      by_cases hy' : y' = x
      · subst hy'; rw [lookup_cons_eq] at e; cases e; exact hpsc p hpm
      · rw [lookup_cons_ne hy'] at e; cases e
    have hES' : ES cx true noW (compEnvC scope cl C env) [(x, p)] none s₃ := ⟨hES.vs.none, hES.kind, hES.globals, hES.builtins, fun y' p' e => (let ⟨u, hu, ru⟩ := hES.vars y' p' e; ⟨u, hu, ru.scalar (hone y' p' e)⟩), fun y' xs e => (nomatch e)⟩
    refine wpAny_mono (new_list (helt C p hpm) hone hA hES' (hsc p hpm)) (fun y' s₄ h₄ => ?_) fun _ _ e => e
    obtain ⟨⟨T, its, rfl, h1, h2, h3⟩, k4⟩ := h₄
    refine ⟨⟨T, its, rfl, h1, h2, fun p' sr' => ?_⟩, k4⟩
    have : p' = p := by
      have h1 := sr.2 noW {}
      have h2 := sr'.2 noW {}
      cases h1 <;> cases h2 <;> first | rfl | cases sr.1
    subst this
    exact h3
  · obtain ⟨k, g⟩ := hpl
    have hD' : s.heap.get? D = none := r2.back S.vs.ok hD
    have D₀ : s₀.heap.get? D = none := F.rel.back F.ok₀ hD'
    have L₀ : s₀.heap.get? env.locals = none := none_of_le F.fresh
    have wseq : ∀ b ∈ wr, ∀ o, s₂.heap.get? b = some o → ¬ IsSeq o := fun b hb => ((X.ex 0 _ X.start).2 b hb).2
    have ks : ∀ W, KeepSeq W s₂.heap h' := fun W b o _ e q => hk b _ (fun z => by
      obtain ⟨m, o, _, _, e1, e2, _⟩ := F2.ns
      obtain ⟨_, _, d⟩ := q
      rw [← z, e] at e1; cases e1
      rw [e2] at d; cases d) (fun z => wseq b z _ e q) e
    have kc : ∀ {nm c v}, (nm, c) ∈ env.cells → s₂.heap.IsCell c v → h'.IsCell c v := fun hm h => by
      obtain ⟨o, e, d⟩ := h
      refine ⟨o, hk _ o (Nat.ne_of_gt (F.cl.above _ _ hm)) (fun z => ?_) e, d⟩
      obtain ⟨v, o, e, _⟩ := F.cl.cell _ _ hm
      rw [X.wrn _ z] at e; cases e
    have kv : ∀ {z v}, z ≠ y → VarIs s₂.heap env z v → VarIs h' env z v := fun hz h => by
      rcases h with ⟨a, m₂, b, e⟩ | ⟨a, c, b, e⟩
      · refine .inl ⟨a, _, hns, ?_⟩
        show (if _ = y then _ else m _) = _
        rw [if_neg hz, ← e]; exact hm.agree b _
      · exact .inr ⟨a, c, b, kc (mem_of_lookup b) e⟩
    have F3 : FS cx q s₀ W₀ env ((y, .list (ps.map fun p => .loose (f p))) :: ρ) ow oa { s₂ with heap := h', toks := tk } := by
      refine ⟨F2.ok₀, F2.rel.but F2.ok₀ (wr := env.locals :: wr) (fun b hb => ?_) fun b o hb e => ?_, F2.prot₀, F2.kind, F2.globals, F2.builtins, F2.fresh, ⟨_, hns⟩,
        ⟨fun nm c e => let ⟨v, h⟩ := F2.cl.cell nm c e; ⟨v, kc e h⟩, F2.cl.apart, F2.cl.above⟩, fun z p e => ?_, fun a e => ?_, F2.has⟩
      · rcases List.mem_cons.mp hb with rfl | hb
        · exact L₀
        · exact F.rel.back F.ok₀ (X.wrn b hb)
      · exact hk b o (fun z => hb (z ▸ List.mem_cons_self ..)) (fun z => hb (List.mem_cons_of_mem _ z)) e
      · by_cases hz : z = y
        · subst hz
          rw [lookup_cons_eq] at e; cases e
          refine ⟨.ref D, .inl ⟨hy, _, hns, by simp⟩, .list (fun w => ?_) g (comp_lists (fun b hb => ?_) hlen (fun j v hj => X.item j v (hP j v hj)) hF)⟩
          · rcases w with w | w
            · exact F.notW D₀ w
            · obtain ⟨_, _, _, _, _, items, k, g', _⟩ := F.own D w
              rw [hD'] at g'; cases g'
          · obtain ⟨T, items, k, e⟩ := F2.vs.prot b hb
            exact ⟨_, e⟩
        · rw [lookup_cons_ne hz] at e
          obtain ⟨u, hu, ru⟩ := F2.vars z p e
          exact ⟨u, kv hz hu, ru.mono (ks _)⟩
      · obtain ⟨l, z, xs, e', hv, items, k, g, r⟩ := F2.own a e
        exact ⟨l, z, xs, e', kv (hox z xs e') hv, items, k, ks noW _ _ id g (isSeq ..), r.mono (ks _)⟩
    refine ⟨_, _, oa, hΦ, F3, fun b o hmu hP' e => ?_, .refl⟩
    exact hk b o (fun z => hmu (.inl z)) (fun z => by rw [X.wrn b z] at e; cases e) (r2.keep b o hP' e)

/-- an item of such a list -/
theorem Ev_item_loose {value slice : Expr} {pos : Pos} {l : List Nat} {k c : Nat} (hv : Ev cx q n env ρ ow value (.loose (l.map PV.nat))) (hi : Ev cx q n env ρ ow slice (.nat k)) (h : l[k]? = some c) (hsz : l.length ≤ 100000)
    (hsu : ∀ o i, subscripted slice false o i = operate [o, i] (getItem o i) := by intro _ _; rfl) : Ev cx q n env ρ ow (.Subscript value slice pos) (.nat c) := fun A s W E hA S => by
  refine Subscript_ (wpAny_mono (hv A s W E hA S) (fun v s₁ h₁ => ?_) fun _ _ e => e)
  refine wpAny_mono (hi A s₁ W E hA (S.rel h₁.1)) (fun u s₂ h₂ => ?_) fun _ _ e => e
  have hr := h₂.1.rep (S.rel h₁.1).vs.ok h₁.2
  obtain ⟨r2, hk⟩ := h₂
  cases hk
  cases hr with | loose w g hc hd r =>
  obtain ⟨x, hx', rx⟩ := r.get (i := k) (p := .nat c) (by simp [h])
  have hlt : k < l.length := (List.getElem?_eq_some_iff.mp h).1
  refine tail_any (T := "list") ⟨_, g, hc⟩ slot_list_getitem.lookup (wpAny_getItem_list ⟨_, g, hc, _, hd⟩ (by omega) (by omega) (x := x) (by simpa using hx') ?_) (hsu _ _)
  exact ⟨h₁.1.trans r2, rx⟩
end Mine

namespace Mine
variable {cx : Cx} {q : Bool} {n : Nat} {env : Env} {plain : List Str} {ρ : Ctxt} {ow : Option (Str × List PV)}
local macro_rules | `(tactic| walk_at "has") => `(tactic| (repeat' first | exact Has_nil | refine Has_cons rfl ?_))

/-- _law_by -/
def nextBy (num : Nat) : Nat := (num * 2) ^^^ (if decide (15 < num) = true then 41 else 0)
def loopBy : Nat → Nat → List Nat → List Nat
  | 0, _, t => t
  | k + 1, num, t => loopBy k (nextBy num) (t ++ t.map (· ^^^ num))
def byN (num : Nat) : List Nat := loopBy 5 num [0]

theorem by_plain : Plain "_law_by" ["number"] where
  bind := fun pm cd doc vs h => by
    match vs, h with
    | [a], _ => rfl
  nd := by decide
  kind := fun x hx => by
    simp only [List.mem_cons, List.not_mem_nil, or_false] at hx
    subst hx; exact .inr ⟨rfl, fun _ => rfl⟩
  cn := by decide
  co := rfl
  gen := rfl
  sk := rfl

theorem Fn_by (B : Base cx plain) (hf : ("_law_by" : Str) ∈ plain) (num : Nat) : Fn cx q n "_law_by" [.nat num] (natl (byN num)) := by
  refine Fn_def B hf by_plain rfl fun L a pm cd doc => ?_
  refine Runs_cons (Run1_assign (p := natl [0]) (Ev_list (EvAll_cons (Ev_nat 0) EvAll_nil)) (.inl rfl) ?_)
  refine Runs_cons (Run1_while (fun k ρ ow => ∃ m t, loopBy k m t = byN num ∧ t.length * 2 ^ k = 32 ∧ k ≤ 5 ∧ ow = none ∧ Has ρ [("number", .nat m), ("table", natl t)]) 5 ⟨num, [0], rfl, rfl, by decide, rfl, by walk_at "has"⟩ ?_)
  rintro k ρ ow ⟨m, t, ht, hl, hk5, rfl, hH⟩
  have hlt : t.length ≤ 32 := by
    have : t.length * 1 ≤ t.length * 2 ^ k := Nat.mul_le_mul_left _ (Nat.two_pow_pos k)
    omega
  refine ⟨decide (t.length < 32), EvT_cmp (Ev_len B (Ev_name (hH _ _ rfl)).r (op_len_natl (by omega))) (Ev_nat 32) op_ltN, fun hb => ?_, fun hb => ?_⟩
  · have hb : t.length < 32 := of_decide_eq_true hb
    obtain ⟨k, rfl⟩ : ∃ k', k = k' + 1 := ⟨k - 1, by
      cases k with
      | zero => simp at hl; omega
      | succ k => rfl⟩
    refine Runs_weak hH ?_
    refine Runs_cons (Run1_assign (p := natl (t ++ t.map (· ^^^ m))) (Ev_binop (b := natl (t.map (· ^^^ m))) (Ev_name rfl) ?_ (op_add_natl (by simp; omega))) (.inl rfl) ?_)
    · have e : natl (t.map (· ^^^ m)) = .list (t.map fun a => .nat (a ^^^ m)) := by simp [Function.comp_def]
      rw [e]
      refine Ev_compL (cl := [("number", L + 1)]) (ρc := [("number", .nat m)]) (g := PV.nat) (EvIter_list (Ev_name rfl) natl_scalar) ?_ (by omega) (fun C a ha => Ev_binop (Ev_name rfl) (Ev_name rfl) op_xorN) (fun _ _ => rfl) natP_inj
      exact ⟨rfl, by decide, rfl, by decide, rfl, fun e he => by
        simp only [List.mem_cons, List.not_mem_nil, or_false] at he
        subst he
        exact ⟨rfl, rfl, rfl, rfl⟩⟩
    refine Runs_cons (Run1_assign (p := .nat (nextBy m)) (Ev_binop (Ev_binop (Ev_name rfl) (Ev_nat 2) (op_mulN (by decide))) (Ev_if (p := .nat (if decide (15 < m) = true then 41 else 0)) (EvT_cmp (Ev_name rfl) (Ev_nat 15) op_gtN) (fun hb => ?_) fun hb => ?_) op_xorN) (.inr ⟨rfl, rfl⟩) ?_)
    · rw [if_pos hb]; exact Ev_nat 41
    · rw [hb]; exact Ev_nat 0
    · refine Runs_nil ⟨k, Nat.lt_succ_self k, nextBy m, t ++ t.map (· ^^^ m), ht, ?_, by omega, rfl, by walk_at "has"⟩
      rw [Nat.pow_succ] at hl
      simp only [List.length_append, List.length_map]
      rw [Nat.add_mul]
      rw [Nat.mul_comm (2 ^ k) 2, ← Nat.mul_assoc, Nat.mul_comm _ 2, Nat.mul_assoc] at hl
      omega
  · have hb : ¬ t.length < 32 := of_decide_eq_false hb
    refine Runs_cons (Run1_return (Ev_name (hH _ _ rfl)) ?_)
    have : k = 0 := by
      cases k with
      | zero => rfl
      | succ k =>
        have h1 : 2 ≤ 2 ^ (k + 1) := by rw [Nat.pow_succ]; have := Nat.two_pow_pos k; omega
        have h2 : t.length * 2 ≤ t.length * 2 ^ (k + 1) := Nat.mul_le_mul_left _ h1
        omega
    subst this
    show natl t = natl _
    rw [← ht]; rfl

/-- _law_run -/
structure Six where
  u : Nat
  v : Nat
  w : Nat
  x : Nat
  y : Nat
  z : Nat
def Six.ok (s : Six) : Prop := s.u < 32 ∧ s.v < 32 ∧ s.w < 32 ∧ s.x < 32 ∧ s.y < 32 ∧ s.z < 32
def Six.list (s : Six) : List Nat := [s.u, s.v, s.w, s.x, s.y, s.z]
def atT (t : List Nat) (k : Nat) : Nat := t.getD k 0
def stepS (s : Six) (value : Nat) : Six := ⟨atT (byN 29) s.u ^^^ s.v, atT (byN 22) s.u ^^^ s.w, atT (byN 20) s.u ^^^ s.x, atT (byN 21) s.u ^^^ s.y, atT (byN 29) s.u ^^^ s.z, atT (byN 18) s.u ^^^ value⟩
def runS (s : Six) (values : List Nat) : Six := values.foldl stepS s

theorem by_facts : ∀ m ∈ [29, 22, 20, 21, 18], (byN m).length = 32 ∧ ∀ k < 32, atT (byN m) k < 32 := by decide +kernel
theorem atT_get {m k : Nat} (hm : m ∈ [29, 22, 20, 21, 18]) (hk : k < 32) : (byN m)[k]? = some (atT (byN m) k) := by
  have h1 := (by_facts m hm).1
  unfold atT
  rw [List.getD_eq_getElem?_getD, List.getElem?_eq_getElem (by rw [h1]; exact hk)]; rfl
theorem stepS_ok {s : Six} {value : Nat} (h : s.ok) (hv : value < 32) : (stepS s value).ok := by
  obtain ⟨h1, h2, h3, h4, h5, h6⟩ := h
  have x5 : ∀ {a b : Nat}, a < 32 → b < 32 → a ^^^ b < 32 := fun {a b} ha hb => Nat.xor_lt_two_pow (n := 5) ha hb
  have f : ∀ m ∈ [29, 22, 20, 21, 18], atT (byN m) s.u < 32 := fun m hm => (by_facts m hm).2 _ h1
  exact ⟨x5 (f _ (by decide)) h2, x5 (f _ (by decide)) h3, x5 (f _ (by decide)) h4, x5 (f _ (by decide)) h5, x5 (f _ (by decide)) h6, x5 (f _ (by decide)) hv⟩

theorem run_plain : Plain "_law_run" ["state", "values", "tables"] where
  bind := fun pm cd doc vs h => by
    match vs, h with
    | [a, b, c], _ => rfl
  nd := by decide
  kind := fun x hx => by
    simp only [List.mem_cons, List.not_mem_nil, or_false] at hx
    rcases hx with rfl | rfl | rfl <;> exact .inl rfl
  cn := by decide
  co := rfl
  gen := rfl
  sk := rfl

abbrev tabPV : PV := .list ([29, 22, 20, 21, 18].map fun m => .loose ((byN m).map PV.nat))

theorem Fn_run (B : Base cx plain) (hf : ("_law_run" : Str) ∈ plain) (s0 : Six) (h0 : s0.ok) (values : List Nat) (hv : ∀ v ∈ values, v < 32) : Fn cx q n "_law_run" [natl s0.list, natl values, tabPV] (natl (runS s0 values).list) := by
  refine Fn_def B hf run_plain rfl fun L a pm cd doc => ?_
  refine Runs_cons (Run1_unpack (names := [("by29", _), ("by22", _), ("by20", _), ("by21", _), ("by18", _)]) rfl (Ev_name rfl) (.inr rfl) rfl ?_ ?_)
  · intro x hx
    simp only [List.mem_cons, List.not_mem_nil, or_false] at hx
    rcases hx with rfl | rfl | rfl | rfl | rfl <;> exact ⟨.inl rfl, by intro _ _ h; cases h⟩
  refine Runs_cons (Run1_unpack (names := [("u", _), ("v", _), ("w", _), ("x", _), ("y", _), ("z", _)]) (ps := s0.list.map PV.nat) rfl (Ev_name rfl) (.inr rfl) rfl ?_ ?_)
  · intro x hx
    simp only [List.mem_cons, List.not_mem_nil, or_false] at hx
    rcases hx with rfl | rfl | rfl | rfl | rfl | rfl <;> exact ⟨.inl rfl, by intro _ _ h; cases h⟩
  refine Runs_cons (Run1_for (fun i ρ ow => ow = none ∧ (runS s0 (values.take i)).ok ∧ Has ρ [("u", .nat (runS s0 (values.take i)).u), ("v", .nat (runS s0 (values.take i)).v), ("w", .nat (runS s0 (values.take i)).w), ("x", .nat (runS s0 (values.take i)).x), ("y", .nat (runS s0 (values.take i)).y), ("z", .nat (runS s0 (values.take i)).z),
      ("by29", .loose ((byN 29).map PV.nat)), ("by22", .loose ((byN 22).map PV.nat)), ("by20", .loose ((byN 20).map PV.nat)), ("by21", .loose ((byN 21).map PV.nat)), ("by18", .loose ((byN 18).map PV.nat))])
    (EvIter_list (Ev_name (p := natl values) rfl) natl_scalar) (.inl rfl) ⟨rfl, h0, by walk_at "has"⟩ ?_ ?_ ?_)
  · rintro i p ρ ow hp ⟨rfl, hok, hH⟩
    obtain ⟨v, hvi, rfl⟩ := nat_get hp
    have hv32 := hv v (List.mem_of_getElem? hvi)
    have e : runS s0 (values.take (i + 1)) = stepS (runS s0 (values.take i)) v := by rw [take_snoc hvi]; simp [runS]
    rw [e]
    refine Runs_weak hH.cons ?_
    clear hH e
    generalize runS s0 (values.take i) = st at hok ⊢
    have hok' := stepS_ok hok hv32
    obtain ⟨h1, h2, h3, h4, h5, h6⟩ := id hok
    have it : ∀ {vp ip pp : Pos} {nm : Str} {m : Nat} {ρ : Ctxt}, m ∈ [29, 22, 20, 21, 18] → ρ.lookup nm = some (.loose ((byN m).map PV.nat)) → ρ.lookup ("u" : Str) = some (.nat st.u) → (nm == ("__debug__" : Str)) = false →
        Ev cx q n (callEnvC (fdOf "_law_run" pm cd doc) L a) ρ none (.Subscript (.Name nm vp) (.Name "u" ip) pp) (.nat (atT (byN m) st.u)) := fun hm h1' h2' hd =>
      Ev_item_loose (Ev_name h1' hd) (Ev_name h2') (atT_get hm h1) (by rw [(by_facts _ hm).1]; decide)
    refine Runs_cons (Run1_unpack (names := [("u", _), ("v", _), ("w", _), ("x", _), ("y", _), ("z", _)]) (ps := (stepS st v).list.map PV.nat) rfl (Ev_tuple (EvAll_cons (Ev_binop (it (m := 29) (by decide) rfl rfl rfl) (Ev_name rfl) op_xorN) (EvAll_cons (Ev_binop (it (m := 22) (by decide) rfl rfl rfl) (Ev_name rfl) op_xorN) (EvAll_cons (Ev_binop (it (m := 20) (by decide) rfl rfl rfl) (Ev_name rfl) op_xorN)
      (EvAll_cons (Ev_binop (it (m := 21) (by decide) rfl rfl rfl) (Ev_name rfl) op_xorN) (EvAll_cons (Ev_binop (it (m := 29) (by decide) rfl rfl rfl) (Ev_name rfl) op_xorN) (EvAll_cons (Ev_binop (it (m := 18) (by decide) rfl rfl rfl) (Ev_name rfl) op_xorN) EvAll_nil)))))) (Nat.le_of_ble_eq_true rfl)) (.inl rfl) rfl ?_ ?_)
    · intro x hx
      simp only [List.mem_cons, List.not_mem_nil, or_false] at hx
      rcases hx with rfl | rfl | rfl | rfl | rfl | rfl <;> exact ⟨.inl rfl, by intro _ _ h; cases h⟩
    · exact Runs_nil ⟨rfl, hok', by walk_at "has"⟩
  · rintro ρ ow ⟨rfl, hok, hH⟩
    rw [List.length_map, List.take_length] at hH
    refine Runs_weak hH (Runs_cons (Run1_return (Ev_list (EvAll_cons (Ev_name rfl) (EvAll_cons (Ev_name rfl) (EvAll_cons (Ev_name rfl) (EvAll_cons (Ev_name rfl) (EvAll_cons (Ev_name rfl) (EvAll_cons (Ev_name rfl) EvAll_nil)))))) (Nat.le_of_ble_eq_true rfl)) rfl))
  · rintro i ρ ow ⟨rfl, _⟩ y xs h; cases h
end Mine

namespace Mine
variable {cx : Cx} {q : Bool} {n : Nat} {env : Env} {plain : List Str} {ρ : Ctxt} {ow : Option (Str × List PV)}
local macro_rules | `(tactic| walk_at "has") => `(tactic| (repeat' first | exact Has_nil | refine Has_cons rfl ?_))
local macro_rules | `(tactic| walk_at "ow") => `(tactic| (intro y xs h; cases h; decide))

abbrev plain1 : List Str := ["bech32_polymod", "bech32_hrp_expand", "bech32_verify_checksum", "bech32_create_checksum", "bech32_encode", "decode", "encode", "_law_at", "_law_digits", "_law_by", "_law_run", "law"]

def numsOf (h : List Nat) (v : Nat) (p : List Nat) : List Nat := (v :: padC 8 5 p) ++ createN h (v :: padC 8 5 p)
def turnedOf (p : List Nat) (pl tn : Nat) : List Nat := (List.range p.length).map fun k => p.getD k 0 ^^^ (if decide (k = pl) = true then tn else 0)
def madeOf (h : List Nat) (v : Nat) (p laid : List Nat) : List Nat := h ++ [49] ++ ((List.range laid.length).map fun k => charN ((numsOf h v p).getD k 0 ^^^ laid.getD k 0))

/-- what the law of decode leans on, at one script -/
structure Facts1 (h : List Nat) (v o : Nat) (p : List Nat) (pl tn : Nat) (laid : List Nat) : Prop where
  name : GoodH h
  short : h.length ≤ 2
  ver : Ver v
  prog : Prog p
  small : p.length ≤ 6
  place : pl < p.length
  len : laid.length = 1 + (padC 8 5 p).length + 6
  lt : ∀ d ∈ laid, d < 32
  fin : decN h (madeOf h v p laid) = if (decide (0 < o) && (decide (o < 17) && true)) = true then some (o, turnedOf p pl tn) else none

theorem numsOf_lt {h : List Nat} {v : Nat} {p : List Nat} (hv : Ver v) : ∀ d ∈ numsOf h v p, d < 32 := fun d hd => (List.mem_append.mp hd).elim (fun hd => (List.mem_cons.mp hd).elim (fun e => by have := hv.2; omega) (padC_lt p d)) (createN_lt _ _ d)
theorem numsOf_length (h : List Nat) (v : Nat) (p : List Nat) : (numsOf h v p).length = 1 + (padC 8 5 p).length + 6 := by
  unfold numsOf; rw [List.length_append, createN_length, List.length_cons]; omega
theorem getD_get {l : List Nat} {k : Nat} (h : k < l.length) : l[k]? = some (l.getD k 0) := by
  rw [List.getD_eq_getElem?_getD, List.getElem?_eq_getElem h]; rfl
theorem charD_mem (d : Nat) (h : d < 32) : charN d ∈ charsN := List.mem_of_getElem? (char_get h)
theorem idx_char : ∀ d < 32, idxN (charN d) = d := by decide +kernel

theorem law1_tail (K : Codec) (B : Base cx plain1) (hsg : ∃ t, cx.mg "_law_signs" = some (.str "qpzry9x8gf2tvdw0s3jn54khce6mua7l" t)) {h : List Nat} {v o : Nat} {p : List Nat} {pl tn : Nat} {laid : List Nat} (F : Facts1 h v o p pl tn laid) (L a : Addr) (pm cd doc : Value) :
    Runs cx false (n + 5) (callEnvC (fdOf "law" pm cd doc) L a) [("readable", strN h), ("version", .nat v), ("other", .nat o), ("program", natl p), ("place", .nat pl), ("turn", .nat tn), ("laid", natl laid)] none ((bodyOf "law").drop 13) (Gives (.bool true)) := by
  obtain ⟨f1, f2, f3, f4, f5, f6, f7, f8, f9⟩ := F
  have hpl := padC_length p
  have hsigns : ∀ {m : Nat} {q : Bool} {e : Env} {r : Ctxt} {w : Option (Str × List PV)} {pos : Pos}, e.kindOf "_law_signs" = some .globalImplicit → Ev cx q m e r w (.Name "_law_signs" pos) (strN charsN) := fun hk => by
    obtain ⟨t, e⟩ := hsg
    rw [chars_is] at e
    exact Ev_global B.ok hk e fun _ _ => .str _ _
  have he := Fn_encode (cx := cx) (n := n) B (by decide) (by decide) (by decide) (by decide) (by decide) (by decide) (by decide) h p v (by omega) (by have := f3.2; omega) (by omega) f4.2.2
  rw [encN_good K f1 f3 f4] at he
  refine Runs_cons (Run1_assign (p := strN (textN h v p)) (Ev_call B.ok he rfl (EvAll_cons (Ev_name rfl) (EvAll_cons (Ev_name rfl) (EvAll_cons (Ev_name rfl) EvAll_nil)))) (.inl rfl) ?_)
  have et : textN h v p = h ++ [49] ++ (numsOf h v p).map charN := rfl
  have hnl := numsOf_length h v p
  have hnlt := numsOf_lt (h := h) (p := p) f3
  have htl : (textN h v p).length = h.length + 1 + (numsOf h v p).length := by rw [et]; simp; omega
  have htake : (textN h v p).take (h.length + 1) = h ++ [49] := by
    rw [et, List.take_append_of_le_length (by simp), List.take_of_length_le (by simp)]
  have hdrop : (textN h v p).drop (h.length + 1) = (numsOf h v p).map charN := by
    rw [et, List.drop_append_of_le_length (by simp), List.drop_of_length_le (by simp)]; rfl
  unfold madeOf at f9
  generalize textN h v p = text at htl htake hdrop ⊢
  generalize hnums : numsOf h v p = nums at hnl hnlt htl hdrop f9 ⊢
  clear he et
  refine Runs_cons (Run1_if (b := false) (EvT_bools (EvTs_or (a := false) (b := false) ((EvT_cmp (Ev_name (p := strN text) rfl) Ev_none op_is_none).to rfl) fun _ => EvTs_or (a := false) (b := false) ((EvT_cmp (Ev_to_strN (Ev_name rfl) (Ev_binop (Ev_len B (Ev_name rfl).r (op_len_strN (by omega))) (Ev_nat 1) op_addN) (by omega) (by omega)) (Ev_binop (Ev_name rfl) (Ev_strN [49]) (op_add_strN (by simp; omega))) op_ne_strN).to (by rw [htake]; simp)) fun _ => EvTs_or_nil)) (fun hb => by cases hb) fun _ => ?_)
  have e1 : natl nums = .list ((nums.map charN).map fun c => .nat (idxN c)) := by
    rw [List.map_map]
    show PV.list _ = PV.list _
    congr 1
    exact List.map_congr_left fun d hd => by show PV.nat d = PV.nat (idxN (charN d)); rw [idx_char d (hnlt d hd)]
  refine Runs_nil (Runs_cons (Run1_assign (p := natl nums) ?_ (.inr ⟨rfl, rfl⟩) ?_))
  · rw [e1, ← hdrop]
    refine Ev_compL (cl := []) (ρc := []) (EvIter_strN (Ev_from_strN (Ev_name rfl) (Ev_binop (Ev_len B (Ev_name rfl).r (op_len_strN (by omega))) (Ev_nat 1) op_addN) (by omega) (by omega))) ?_ (by rw [hdrop]; simp; omega) (fun C c hc => ?_) (fun _ _ => rfl) oneN_inj
    · exact ⟨rfl, by decide, rfl, by decide, rfl, fun e he => by cases he⟩
    · rw [hdrop] at hc
      obtain ⟨d, hd, rfl⟩ := List.mem_map.mp hc
      exact (Ev_find (hsigns rfl) (Ev_name rfl)).to (by rw [find_one (charD_mem d (hnlt d hd))]; rfl)
  have e2 : natl nums = .list ((nums.map fun (d : Nat) => (d : Int)).map .int) := by simp
  refine Runs_cons (Run1_if (b := false) (EvT_bools (EvTs_or (a := false) (b := false) ((EvT_cmp (Ev_unop Ev_int op_neg) ((Ev_name (p := natl nums) rfl).to e2) op_in_ints).to ?_) fun _ => EvTs_or (a := false) (b := false) ((EvT_cmp (Ev_len B (Ev_name (p := natl nums) rfl).r (op_len_natl (by omega))) (Ev_len B (Ev_name (p := natl laid) rfl).r (op_len_natl (by omega))) op_neN).to ?_) fun _ => EvTs_or_nil)) (fun hb => by cases hb) fun _ => ?_)
  · rw [List.any_eq_false]
    intro i hi
    obtain ⟨d, _, rfl⟩ := List.mem_map.mp hi
    simp
  · simp; omega
  have hin : ∀ k < laid.length, nums.getD k 0 < 32 ∧ laid.getD k 0 < 32 := fun k hk => ⟨hnlt _ (List.mem_of_getElem? (getD_get (by omega))), f8 _ (List.mem_of_getElem? (getD_get hk))⟩
  refine Runs_nil (Runs_cons (Run1_assign (p := strN (h ++ [49] ++ ((List.range laid.length).map fun k => charN (nums.getD k 0 ^^^ laid.getD k 0)))) (Ev_binop (Ev_binop (Ev_name rfl) (Ev_strN [49]) (op_add_strN (by simp; omega))) (Ev_joinN (Ev.r ?_) (by simp; omega)) (op_add_strN (by simp; omega))) (.inl rfl) ?_))
  · rw [List.map_map]
    refine Ev_compL (cl := [("numbers", L + 5), ("laid", L + 4)]) (ρc := [("laid", natl laid), ("numbers", natl nums)]) (EvIter_range B.ok rfl (B.nob _ (by decide)) rfl (Ev_len B (Ev_name (p := natl laid) rfl).r (op_len_natl (by omega))) rfl (by omega)) ?_ (by simp; omega) (fun C k hk => ?_) (fun _ _ => rfl) natP_inj
    · exact ⟨rfl, by decide, rfl, by decide, rfl, fun e he => by
        simp only [List.mem_cons, List.not_mem_nil, or_false] at he
        rcases he with rfl | rfl <;> exact ⟨rfl, rfl, rfl, rfl⟩⟩
    · have hk : k < laid.length := by simpa using hk
      obtain ⟨b1, b2⟩ := hin k hk
      exact Ev_item_strN (hsigns rfl) (Ev_binop (Ev_item_natl (Ev_name rfl).r (Ev_name rfl) (getD_get (by omega)) (by omega)) (Ev_item_natl (Ev_name rfl).r (Ev_name rfl) (getD_get hk) (by omega)) op_xorN) (char_get (Nat.xor_lt_two_pow (n := 5) b1 b2)) (by decide)
  generalize hmade : h ++ [49] ++ ((List.range laid.length).map fun k => charN (nums.getD k 0 ^^^ laid.getD k 0)) = made at f9 ⊢
  have hml : made.length ≤ 900 := by rw [← hmade]; simp; omega
  have e3 : natl (turnedOf p pl tn) = .list ((List.range p.length).map fun k => .nat (p.getD k 0 ^^^ (if decide (k = pl) = true then tn else 0))) := by simp [turnedOf, Function.comp_def]
  refine Runs_cons (Run1_assign_compL (cl := [("turn", L + 3), ("program", L + 1), ("place", L + 2)]) (ρc := [("place", .nat pl), ("program", natl p), ("turn", .nat tn)]) (f := fun k => .nat (p.getD k 0 ^^^ (if decide (k = pl) = true then tn else 0))) (EvIter_range B.ok rfl (B.nob _ (by decide)) rfl (Ev_len B (Ev_name (p := natl p) rfl).r (op_len_natl (by omega))) rfl (by omega)) ?_ (by simp; omega) (fun C k hk => ?_) (fun _ _ => rfl) natP_inj rfl ?_)
  · exact ⟨rfl, by decide, rfl, by decide, rfl, fun e he => by
      simp only [List.mem_cons, List.not_mem_nil, or_false] at he
      rcases he with rfl | rfl | rfl <;> exact ⟨rfl, rfl, rfl, rfl⟩⟩
  · have hk : k < p.length := by simpa using hk
    refine Ev_binop (Ev_item_natl (Ev_name rfl).r (Ev_name rfl) (getD_get hk) (by omega)) (Ev_if (EvT_cmp (Ev_name rfl) (Ev_name rfl) op_eqN) (fun hb => ?_) fun hb => ?_) op_xorN
    · rw [if_pos hb]; exact Ev_name rfl
    · rw [hb]; exact Ev_nat 0
  rw [← e3]
  have hdc := Fn_decode (cx := cx) (n := n + 1) B (by decide) (by decide) (by decide) (by decide) h made hml
  rw [f9] at hdc
  refine Runs_cons (Run1_return (Ev_cmp (b := pairPV (if (decide (0 < o) && (decide (o < 17) && true)) = true then some (o, turnedOf p pl tn) else none)) (Ev_call B.ok hdc rfl (EvAll_cons (Ev_name rfl) (EvAll_cons (Ev_name rfl) EvAll_nil))) (Ev_if (EvT_bools (EvTs_and (EvT_cmp (Ev_name rfl) (Ev_nat 0) op_gtN) fun _ => EvTs_and (EvT_cmp (Ev_name rfl) (Ev_nat 17) op_ltN) fun _ => EvTs_and_nil)) (fun hb => ?_) fun hb => ?_) (op_eq_dat (shaped_pair _) (shaped_pair _))) ?_)
  · rw [if_pos hb]
    exact Ev_tuple (EvAll_cons (Ev_name rfl) (EvAll_cons (Ev_name rfl) EvAll_nil)) (Nat.le_of_ble_eq_true rfl)
  · rw [hb]
    exact Ev_tuple (EvAll_cons Ev_none (EvAll_cons Ev_none EvAll_nil))
  · show PV.bool _ = _
    rw [eqv_pair]
end Mine

namespace Mine
variable {cx : Cx} {q : Bool} {n : Nat} {env : Env} {plain : List Str} {ρ : Ctxt} {ow : Option (Str × List PV)}
local macro_rules | `(tactic| walk_at "has") => `(tactic| (repeat' first | exact Has_nil | refine Has_cons rfl ?_))
local macro_rules | `(tactic| walk_at "ow") => `(tactic| (intro y xs h; cases h; decide))

/-- the signs to be turned, as the law lays them -/
def layStep (pl tn : Nat) (l : List Nat) (k : Nat) : List Nat :=
  if decide (tn / 2 ^ (7 - k) % 2 = 1) = true then l.set (1 + (8 * pl + k) / 5) (l.getD (1 + (8 * pl + k) / 5) 0 + 2 ^ (4 - (8 * pl + k) % 5)) else l
def layStart (v o len : Nat) : List Nat := [v ^^^ o] ++ List.replicate ((8 * len + 4) / 5) 0
def layAt (v o len pl tn : Nat) (i : Nat) : List Nat := (List.range i).foldl (layStep pl tn) (layStart v o len)
def zeroSix : Six := ⟨0, 0, 0, 0, 0, 0⟩
theorem zeroSix_ok : zeroSix.ok := by unfold Six.ok zeroSix; decide
def laidOf (v o len pl tn : Nat) : List Nat := layAt v o len pl tn 8 ++ (runS zeroSix (layAt v o len pl tn 8 ++ [0, 0, 0, 0, 0, 0])).list

theorem layStep_length (pl tn : Nat) (l : List Nat) (k : Nat) : (layStep pl tn l k).length = l.length := by unfold layStep; split <;> simp
theorem layAt_succ (v o len pl tn i : Nat) : layAt v o len pl tn (i + 1) = layStep pl tn (layAt v o len pl tn i) i := by
  unfold layAt; rw [List.range_succ, List.foldl_append]; rfl
theorem layAt_length (v o len pl tn : Nat) : ∀ i, (layAt v o len pl tn i).length = 1 + (8 * len + 4) / 5
  | 0 => by simp [layAt, layStart]; omega
  | i + 1 => by rw [layAt_succ, layStep_length, layAt_length v o len pl tn i]

theorem rep_zero (m : Nat) : (List.replicate m [PV.nat 0]).flatten = (List.replicate m 0).map PV.nat := by
  induction m with
  | zero => rfl
  | succ m ih => rw [List.replicate_succ, List.flatten_cons, ih, List.replicate_succ, List.map_cons]; rfl
theorem op_mulN_list {m : Nat} (h : m ≤ 1000) : Op cx q n (bop .Mult) [natl [0], .nat m] (natl (List.replicate m 0)) := (op_mul_list (xs := [0].map PV.nat) (by omega) (by simp; omega) (by omega)).to (by
  show PV.list _ = PV.list _
  rw [Int.toNat_natCast]; exact congrArg _ (rep_zero m))

theorem law1_mid (K : Codec) (B : Base cx plain1) (hsg : ∃ t, cx.mg "_law_signs" = some (.str "qpzry9x8gf2tvdw0s3jn54khce6mua7l" t)) {h : List Nat} {v o : Nat} {p : List Nat} {pl tn : Nat} (hpl : pl < p.length) (hp6 : p.length ≤ 6) (hlt : ∀ d ∈ layAt v o p.length pl tn 8, d < 32)
    (F : Facts1 h v o p pl tn (laidOf v o p.length pl tn)) (L a : Addr) (pm cd doc : Value) :
    Runs cx false (n + 5) (callEnvC (fdOf "law" pm cd doc) L a) [("readable", strN h), ("version", .nat v), ("other", .nat o), ("program", natl p), ("place", .nat pl), ("turn", .nat tn)] none ((bodyOf "law").drop 9) (Gives (.bool true)) := by
  have hz : ∀ {m : Nat} {e : Env} {r : Ctxt} {w : Option (Str × List PV)} {k1 : Nat} {p1 p2 : Pos}, Ev cx false m e r w (.List [.Constant (.int 0) k1 p1] p2) (natl [0]) := Ev_list (EvAll_cons (Ev_nat 0) EvAll_nil)
  have start : layStart v o p.length = [v ^^^ o] ++ List.replicate ((8 * p.length + 4) / 5) 0 := rfl
  refine Runs_cons (Run1_own (xs := [v ^^^ o].map PV.nat ++ (List.replicate ((8 * p.length + 4) / 5) 0).map PV.nat) (EvF_add (Ev_list (EvAll_cons (Ev_binop (Ev_name rfl) (Ev_name rfl) op_xorN) EvAll_nil) (Nat.le_of_ble_eq_true rfl))
    (Ev_binop hz (Ev_binop (Ev_binop (Ev_binop (Ev_nat 8) (Ev_len B (Ev_name (p := natl p) rfl).r (op_len_natl (by omega))) (op_mulN (by omega))) (Ev_nat 4) op_addN) (Ev_nat 5) (op_divN (by decide) (by decide))) (op_mulN_list (by omega))) (by simp; omega)) (fun z hz => ?_) (.inr ⟨rfl, rfl⟩) ?_)
  · rcases List.mem_append.mp hz with hz | hz
    · exact natl_scalar z hz
    · exact natl_scalar z hz
  rw [← List.map_append, ← start]
  refine Runs_cons (Run1_for (fun i ρ ow => ow = some (("laid" : Str), (layAt v o p.length pl tn i).map PV.nat) ∧ Has ρ [("readable", strN h), ("version", .nat v), ("other", .nat o), ("program", natl p), ("place", .nat pl), ("turn", .nat tn)]) (EvIter_range B.ok rfl (B.nob _ (by decide)) rfl (Ev_nat 8) rfl (by decide)) (.inl rfl) ⟨rfl, by walk_at "has"⟩ ?_ ?_ ?_)
  · rintro i z ρ ow hz ⟨rfl, hH⟩
    obtain ⟨hi, rfl⟩ := range_get hz
    rw [layAt_succ]
    have hl := layAt_length v o p.length pl tn i
    generalize layAt v o p.length pl tn i = l at hl ⊢
    refine Runs_weak hH.cons ?_
    clear hH
    have hix : 1 + (8 * pl + i) / 5 < l.length := by omega
    refine Runs_cons (Run1_if (EvT_cmp (Ev_binop (Ev_binop (Ev_name rfl) (Ev_binop (Ev_nat 2) (Ev_binop (Ev_nat 7) (Ev_name rfl) (op_subN (by omega))) (op_powN (by omega))) (op_divN (Nat.ne_of_gt (Nat.two_pow_pos _)) ?_)) (Ev_nat 2) (op_modN (by decide))) (Ev_nat 1) op_eqN) (fun hb => ?_) fun hb => ?_)
    · exact Nat.lt_of_le_of_lt (Nat.pow_le_pow_right (by decide) (by omega : 7 - i ≤ 7)) (by decide)
    · refine Runs_cons (Run1_assign (p := .nat (8 * pl + i)) (Ev_binop (Ev_binop (Ev_nat 8) (Ev_name rfl) (op_mulN (by omega))) (Ev_name rfl) op_addN) (.inl rfl) ?_ (by walk_at "ow"))
      refine Runs_cons (Run1_setitem (p := .nat (l.getD (1 + (8 * pl + i) / 5) 0 + 2 ^ (4 - (8 * pl + i) % 5))) (k := ((1 + (8 * pl + i) / 5 : Nat) : Int))
        (Ev_binop (Ev_item_natl (EvR_own rfl) (Ev_binop (Ev_nat 1) (Ev_binop (Ev_name rfl) (Ev_nat 5) (op_divN (by decide) (by decide))) op_addN) (getD_get hix) (by omega)) (Ev_binop (Ev_nat 2) (Ev_binop (Ev_nat 4) (Ev_binop (Ev_name rfl) (Ev_nat 5) (op_modN (by decide))) (op_subN (by omega))) (op_powN (by omega))) op_addN)
        (Ev_binop (Ev_nat 1) (Ev_binop (Ev_name rfl) (Ev_nat 5) (op_divN (by decide) (by decide))) op_addN) rfl (by omega) (by simp; omega) (by simp; omega) ?_)
      refine Runs_nil (Runs_nil ⟨?_, by walk_at "has"⟩)
      unfold layStep
      rw [if_pos hb, Int.toNat_natCast, List.map_set]
    · refine Runs_nil (Runs_nil ⟨?_, by walk_at "has"⟩)
      unfold layStep
      rw [hb]; rfl
  · rintro ρ ow ⟨rfl, hH⟩
    rw [show ((List.range 8).map fun i => PV.int (i : Nat)).length = 8 from rfl]
    refine Runs_unown (Runs_weak hH.cons ?_)
    clear hH
    have hl8 := layAt_length v o p.length pl tn 8
    have elaid : laidOf v o p.length pl tn = layAt v o p.length pl tn 8 ++ (runS zeroSix (layAt v o p.length pl tn 8 ++ [0, 0, 0, 0, 0, 0])).list := rfl
    generalize laidOf v o p.length pl tn = laid at F elaid
    generalize layAt v o p.length pl tn 8 = l8 at hlt hl8 elaid ⊢
    refine Runs_cons (Run1_assign_lists (cl := []) (ps := [29, 22, 20, 21, 18].map PV.nat) (fun z => match z with | .int i => (byN i.toNat).map PV.nat | _ => []) (EvIter_list (Ev_list (EvAll_cons (Ev_nat 29) (EvAll_cons (Ev_nat 22) (EvAll_cons (Ev_nat 20) (EvAll_cons (Ev_nat 21) (EvAll_cons (Ev_nat 18) EvAll_nil)))))) natl_scalar) ?_ (Nat.le_of_ble_eq_true rfl) (fun C z hz => ?_) natl_scalar (fun z hz => ?_) rfl ?_)
    · exact ⟨rfl, by decide, rfl, by decide, rfl, fun e he => by cases he⟩
    · obtain ⟨m, hm, rfl⟩ := List.mem_map.mp hz
      exact Ev_call B.ok (Fn_by (q := true) (n := n + 4) B (by decide) m) rfl (EvAll_cons (Ev_name rfl) EvAll_nil)
    · obtain ⟨m, hm, rfl⟩ := List.mem_map.mp hz
      exact natl_scalar
    refine Runs_cons (Run1_assign (p := natl laid) ?_ (.inr ⟨rfl, rfl⟩) ?_)
    · rw [elaid]
      refine Ev_binop (Ev_name rfl) (Ev_call (p := natl zeroSix.list) B.ok (Fn_run (n := n + 4) B (by decide) zeroSix zeroSix_ok (l8 ++ [0, 0, 0, 0, 0, 0]) fun d hd => ?_) rfl (EvAll_cons ?_ (EvAll_cons ?_ (EvAll_cons (Ev_name rfl) EvAll_nil)))) (op_add_natl (by simp [Six.list]; omega))
      · rcases List.mem_append.mp hd with hd | hd
        · exact hlt d hd
        · simp at hd; rw [hd]; decide
      · exact Ev_list (EvAll_cons (Ev_nat 0) (EvAll_cons (Ev_nat 0) (EvAll_cons (Ev_nat 0) (EvAll_cons (Ev_nat 0) (EvAll_cons (Ev_nat 0) (EvAll_cons (Ev_nat 0) EvAll_nil))))))
      · exact Ev_binop (Ev_name rfl) (Ev_binop hz (Ev_nat 6) (op_mulN_list (by decide))) (op_add_natl (by simp; omega))
    refine Runs_weak ?_ (law1_tail K B hsg F L a pm cd doc)
    walk_at "has"
  · rintro i ρ ow ⟨rfl, _⟩
    walk_at "ow"
end Mine

namespace Mine
variable {cx : Cx} {q : Bool} {n : Nat} {env : Env} {plain : List Str} {ρ : Ctxt} {ow : Option (Str × List PV)}
local macro_rules | `(tactic| walk_at "has") => `(tactic| (repeat' first | exact Has_nil | refine Has_cons rfl ?_))
local macro_rules | `(tactic| walk_at "ow") => `(tactic| (intro y xs h; cases h; decide))

theorem law_plain1 : Plain "law" ["script"] where
  bind := fun pm cd doc vs h => by
    match vs, h with
    | [a], _ => rfl
  nd := by decide
  kind := fun x hx => by
    simp only [List.mem_cons, List.not_mem_nil, or_false] at hx
    subst hx; exact .inl rfl
  cn := by decide
  co := rfl
  gen := rfl
  sk := rfl

def name1 (script : List Int) : List Nat := (digitsN 68 2 (atN script 0 2759)).map nameC
def ver1 (script : List Int) : Nat := 1 + ((atN script 1 0).fmod 16).toNat
def oth1 (script : List Int) : Nat := ((atN script 2 5).fmod 32).toNat
def nums1 (script : List Int) : List Int := if decide (5 < script.length) = true then (script.drop 5).take (min 11 script.length - 5) else [700, 99]
def progStep (p : List Nat) (i : Int) : List Nat := if decide (p.length < 6) = true then p ++ digitsN 256 (6 - p.length) i else p
def prog0 (script : List Int) : List Nat := (nums1 script).foldl progStep []
def prog1 (script : List Int) : List Nat := if decide ((prog0 script).length < 2) = true then prog0 script ++ [0] else prog0 script
def place1 (script : List Int) : Nat := ((atN script 3 0).fmod (prog1 script).length).toNat
def turn1 (script : List Int) : Nat := ((atN script 4 3).fmod 256).toNat

theorem progStep_of {p : List Nat} (i : Int) (h6 : p.length ≤ 6) (h8 : ∀ d ∈ p, d < 256) : 1 ≤ (progStep p i).length ∧ (progStep p i).length ≤ 6 ∧ ∀ d ∈ progStep p i, d < 256 := by
  unfold progStep
  by_cases h : p.length < 6
  · rw [if_pos (by simpa using h)]
    obtain ⟨d1, d2, d3⟩ := digitsN_of (base := 256) (most := 6 - p.length) (by decide) (by omega) i
    rw [List.length_append]
    refine ⟨by omega, by omega, fun d hd => ?_⟩
    rcases List.mem_append.mp hd with hd | hd
    · exact h8 d hd
    · exact d3 d hd
  · rw [if_neg (by simpa using h)]
    exact ⟨by omega, h6, h8⟩
theorem progs_of : ∀ (l : List Int) (p : List Nat), p.length ≤ 6 → (∀ d ∈ p, d < 256) → (l.foldl progStep p).length ≤ 6 ∧ (∀ d ∈ l.foldl progStep p, d < 256) ∧ ((1 ≤ p.length ∨ l ≠ []) → 1 ≤ (l.foldl progStep p).length)
  | [], p, h6, h8 => ⟨h6, h8, fun h => h.elim id fun h => absurd rfl h⟩
  | i :: l, p, h6, h8 => by
    obtain ⟨a, b, c⟩ := progStep_of i h6 h8
    obtain ⟨x, y, z⟩ := progs_of l (progStep p i) b c
    exact ⟨x, y, fun _ => z (.inl a)⟩
theorem nums1_ne (script : List Int) : nums1 script ≠ [] := by
  unfold nums1
  by_cases h : 5 < script.length
  · rw [if_pos (by simpa using h)]
    intro e
    have := congrArg List.length e
    simp at this
    omega
  · rw [if_neg (by simpa using h)]; simp
theorem nums1_len (script : List Int) (h : script.length ≤ 1000) : (nums1 script).length ≤ 1000 := by
  unfold nums1; split
  · simp; omega
  · simp
theorem prog1_of (script : List Int) : 2 ≤ (prog1 script).length ∧ (prog1 script).length ≤ 6 ∧ ∀ d ∈ prog1 script, d < 256 := by
  obtain ⟨a, b, c⟩ := progs_of (nums1 script) [] (by simp) (by simp)
  have c := c (.inr (nums1_ne script))
  unfold prog1
  have e : prog0 script = (nums1 script).foldl progStep [] := rfl
  rw [← e] at a b c
  by_cases h : (prog0 script).length < 2
  · rw [if_pos (by simpa using h), List.length_append, List.length_singleton]
    refine ⟨by omega, by omega, fun d hd => ?_⟩
    rcases List.mem_append.mp hd with hd | hd
    · exact b d hd
    · simp at hd; rw [hd]; decide
  · rw [if_neg (by simpa using h)]
    exact ⟨by omega, a, b⟩

theorem Fn_law1 (K : Codec) (B : Base cx plain1) (hsg : ∃ t, cx.mg "_law_signs" = some (.str "qpzry9x8gf2tvdw0s3jn54khce6mua7l" t)) (script : List Int) (hsl : script.length ≤ 1000)
    (hlt : ∀ d ∈ layAt (ver1 script) (oth1 script) (prog1 script).length (place1 script) (turn1 script) 8, d < 32)
    (F : Facts1 (name1 script) (ver1 script) (oth1 script) (prog1 script) (place1 script) (turn1 script) (laidOf (ver1 script) (oth1 script) (prog1 script).length (place1 script) (turn1 script))) : Fn cx false (n + 5) "law" [intl script] (.bool true) := by
  refine Fn_def B (by decide) law_plain1 rfl fun L a pm cd doc => ?_
  have hat : ∀ {m : Nat} {e : Env} {r : Ctxt} {o : Option (Str × List PV)} {fp sp p1 p2 pos : Pos} {k1 k2 : Nat} (k : Nat) (d : Int), e.kindOf "_law_at" = some .globalImplicit → r.lookup ("script" : Str) = some (intl script) →
      Ev cx false (m + 1) e r o (.Call (.Name "_law_at" fp) [.Name "script" sp, .Constant (.int (k : Int)) k1 p1, .Constant (.int d) k2 p2] [] pos) (.int (atN script k d)) := fun k d h1 h2 =>
    Ev_call B.ok (Fn_at B (by decide) script k d hsl) h1 (EvAll_cons (Ev_name h2) (EvAll_cons (Ev_nat k) (EvAll_cons Ev_int EvAll_nil)))
  obtain ⟨d1, d2, d3⟩ := digitsN_of (base := 68) (most := 2) (by decide) (by decide) (atN script 0 2759)
  refine Runs_cons (Run1_assign_compL (ρc := []) (cl := []) (g := PV.nat) (f := fun k => oneN (nameC k)) (EvIter_list (Ev_call B.ok (Fn_digits (n := n + 4) B (by decide) (atN script 0 2759) 68 2 (by decide) (by decide)) rfl (EvAll_cons (hat 0 2759 rfl rfl) (EvAll_cons (Ev_nat 68) (EvAll_cons (Ev_nat 2) EvAll_nil)))) natl_scalar)
    ⟨rfl, by decide, rfl, by decide, rfl, fun e he => by cases he⟩ (by omega) (fun C k hk => Ev_nameC B rfl (by have := d3 k hk; omega)) (fun _ _ => rfl) natP_inj rfl ?_)
  have e0 : ((digitsN 68 2 (atN script 0 2759)).map fun k => oneN (nameC k)) = (name1 script).map oneN := by simp [name1]
  have hnl : (name1 script).length ≤ 2 := by simpa [name1] using d2
  rw [e0]
  refine Runs_cons (Run1_assign (p := strN (name1 script)) (Ev_joinN (Ev_name rfl).r (by omega)) (.inl rfl) ?_)
  refine Runs_cons (Run1_assign (p := .nat (ver1 script)) (Ev_binop (Ev_nat 1) (Ev_binop (hat 1 0 rfl rfl) (Ev_nat 16) (op_modI (by decide))) op_addN) (.inl rfl) ?_)
  refine Runs_cons (Run1_assign (p := .nat (oth1 script)) (Ev_binop (hat 2 5 rfl rfl) (Ev_nat 32) (op_modI (by decide))) (.inl rfl) ?_)
  refine Runs_cons (Run1_assign (p := natl []) (Ev_list EvAll_nil) (.inr ⟨rfl, rfl⟩) ?_)
  have ol : Op cx false (n + 5) (fun vs => call (.builtin "len") vs) [intl script] (.nat script.length) := (op_len_list (by simpa using (by omega : script.length ≤ 100000))).to (by simp)
  have hnu := nums1_len script hsl
  refine Runs_cons (Run1_for (ps := (nums1 script).map .int) (fun i ρ ow => ow = none ∧ Has ρ [("program", natl (((nums1 script).take i).foldl progStep [])), ("readable", strN (name1 script)), ("version", .nat (ver1 script)), ("other", .nat (oth1 script)), ("script", intl script)]) (EvIter_list (Ev_if (EvT_cmp (Ev_len B (Ev_name rfl).r ol) (Ev_nat 5) op_gtN) (fun hb => ?_) fun hb => ?_) fun z hz => ?_) (.inl rfl) ⟨rfl, by walk_at "has"⟩ ?_ ?_ ?_)
  · have h5 : 5 < script.length := of_decide_eq_true hb
    refine Ev_slice_list (lo := some ((5 : Nat) : Int)) (hi := some ((11 : Nat) : Int)) (Ev_name (p := intl script) rfl) (Ev_nat 5) (Ev_nat 11) (by simpa using (by omega : script.length ≤ 100000)) ?_
    simp only [Option.elim, clipAt_nat, List.length_map]
    rw [Nat.min_eq_left (Nat.le_of_lt h5), ← List.map_drop, ← List.map_take]
    unfold nums1
    rw [if_pos hb]
  · unfold nums1
    rw [hb]
    exact Ev_list (ps := ([700, 99] : List Int).map PV.int) (EvAll_cons Ev_int (EvAll_cons Ev_int EvAll_nil)) (Nat.le_of_ble_eq_true rfl)
  · obtain ⟨i, _, rfl⟩ := List.mem_map.mp hz; rfl
  · rintro i z ρ ow hz ⟨rfl, hH⟩
    obtain ⟨num, hnum, rfl⟩ : ∃ num, (nums1 script)[i]? = some num ∧ z = .int num := by
      rw [List.getElem?_map] at hz
      cases e : (nums1 script)[i]? with
      | none => rw [e] at hz; cases hz
      | some v => rw [e] at hz; cases hz; exact ⟨v, rfl, rfl⟩
    rw [take_snoc hnum, List.foldl_append]
    obtain ⟨a6, a8, _⟩ := progs_of ((nums1 script).take i) [] (by simp) (by simp)
    generalize ((nums1 script).take i).foldl progStep [] = pr at hH a6 a8 ⊢
    refine Runs_weak hH.cons ?_
    clear hH
    show Runs _ _ _ _ _ _ _ (fun o => match o with | .next ρ'' ow'' => ow'' = none ∧ Has ρ'' [("program", natl (progStep pr num)), ("readable", strN (name1 script)), ("version", .nat (ver1 script)), ("other", .nat (oth1 script)), ("script", intl script)] | .ret r => _)
    refine Runs_cons (Run1_if (EvT_cmp (Ev_len B (Ev_name (p := natl pr) rfl).r (op_len_natl (by omega))) (Ev_nat 6) op_ltN) (fun hb => ?_) fun hb => ?_)
    · have hb' : pr.length < 6 := of_decide_eq_true hb
      obtain ⟨c1, c2, c3⟩ := digitsN_of (base := 256) (most := 6 - pr.length) (by decide) (by omega) num
      refine Runs_cons (Run1_assign (p := natl (progStep pr num)) ?_ (.inr ⟨rfl, rfl⟩) (Runs_nil (Runs_nil ⟨rfl, by walk_at "has"⟩)))
      have : progStep pr num = pr ++ digitsN 256 (6 - pr.length) num := by unfold progStep; rw [if_pos hb]
      rw [this]
      exact Ev_binop (Ev_name rfl) (Ev_call B.ok (Fn_digits (n := n + 4) B (by decide) num 256 (6 - pr.length) (by decide) (by omega)) rfl (EvAll_cons (Ev_name rfl) (EvAll_cons (Ev_nat 256) (EvAll_cons (Ev_binop (Ev_nat 6) (Ev_len B (Ev_name (p := natl pr) rfl).r (op_len_natl (by omega))) (op_subN (by omega))) EvAll_nil)))) (op_add_natl (by omega))
    · have : progStep pr num = pr := by unfold progStep; rw [hb]; rfl
      rw [this]
      exact Runs_nil (Runs_nil ⟨rfl, by walk_at "has"⟩)
  · rintro ρ ow ⟨rfl, hH⟩
    rw [List.length_map, List.take_length] at hH
    have ep : (nums1 script).foldl progStep [] = prog0 script := rfl
    rw [ep] at hH
    obtain ⟨b2, b6, b8⟩ := prog1_of script
    have e1 : prog1 script = if decide ((prog0 script).length < 2) = true then prog0 script ++ [0] else prog0 script := rfl
    have a6 : (prog0 script).length ≤ 6 := (progs_of (nums1 script) [] (by simp) (by simp)).1
    have rest : Runs cx false (n + 5) (callEnvC (fdOf "law" pm cd doc) L a) [("program", natl (prog1 script)), ("readable", strN (name1 script)), ("version", .nat (ver1 script)), ("other", .nat (oth1 script)), ("script", intl script)] none ((bodyOf "law").drop 7) (Gives (.bool true)) := by
      refine Runs_cons (Run1_assign (p := .nat (place1 script)) (Ev_binop (hat 3 0 rfl rfl) (Ev_len B (Ev_name (p := natl (prog1 script)) rfl).r (op_len_natl (by omega))) (op_modI (by omega))) (.inr ⟨rfl, rfl⟩) ?_)
      refine Runs_cons (Run1_assign (p := .nat (turn1 script)) (Ev_binop (hat 4 3 rfl rfl) (Ev_nat 256) (op_modI (by decide))) (.inr ⟨rfl, rfl⟩) ?_)
      refine Runs_weak ?_ (law1_mid K B hsg (modI_lt (by omega)) b6 hlt F L a pm cd doc)
      walk_at "has"
    refine Runs_weak hH ?_
    clear hH ep
    refine Runs_cons (Run1_if (EvT_cmp (Ev_len B (Ev_name (p := natl (prog0 script)) rfl).r (op_len_natl (by omega))) (Ev_nat 2) op_ltN) (fun hb => ?_) fun hb => ?_)
    · rw [if_pos hb] at e1
      refine Runs_cons (Run1_assign (p := natl (prog1 script)) ?_ (.inr ⟨rfl, rfl⟩) (Runs_nil (Runs_weak ?_ rest)))
      · rw [e1]
        exact Ev_binop (Ev_name rfl) (Ev_list (ps := [0].map PV.nat) (EvAll_cons (Ev_nat 0) EvAll_nil)) (op_add_natl (by simp; omega))
      · walk_at "has"
    · rw [hb] at e1
      refine Runs_nil (Runs_weak ?_ rest)
      rw [show natl (prog1 script) = natl (prog0 script) from by rw [e1]; rfl]
      walk_at "has"
  · rintro i ρ ow ⟨rfl, _⟩ y xs h; cases h
end Mine

namespace Mine

/-! polymod is xor-linear -/
theorem gx_bit (top i : Nat) : gx top i = if top.testBit i then gensN.getD i 0 else 0 := by
  unfold gx Nat.testBit
  rw [Nat.and_comm]
theorem gx_xor (a b i : Nat) : gx (a ^^^ b) i = gx a i ^^^ gx b i := by
  rw [gx_bit, gx_bit, gx_bit, Nat.testBit_xor]
  cases a.testBit i <;> cases b.testBit i <;> simp
theorem xor_four (a b c d : Nat) : (a ^^^ b) ^^^ (c ^^^ d) = (a ^^^ c) ^^^ (b ^^^ d) := by
  rw [Nat.xor_assoc, Nat.xor_assoc, ← Nat.xor_assoc b c d, Nat.xor_comm b c, Nat.xor_assoc c b d]
theorem inN_xor (a b : Nat) : ∀ (k c d : Nat), inN (a ^^^ b) k (c ^^^ d) = inN a k c ^^^ inN b k d
  | 0, c, d => rfl
  | k + 1, c, d => by
    simp only [inN]
    rw [inN_xor a b k c d, gx_xor, xor_four]
theorem stepN_xor (a b v w : Nat) : stepN (a ^^^ b) (v ^^^ w) = stepN a v ^^^ stepN b w := by
  unfold stepN
  rw [← inN_xor]
  congr 1
  · rw [Nat.shiftRight_xor_distrib]
  · rw [Nat.and_xor_distrib_right, Nat.shiftLeft_xor_distrib, xor_four]

abbrev foldN (s : Nat) (vs : List Nat) : Nat := vs.foldl stepN s
abbrev xorL (a b : List Nat) : List Nat := List.zipWith (· ^^^ ·) a b
theorem foldN_xor : ∀ (vs ws : List Nat) (a b : Nat), vs.length = ws.length → foldN (a ^^^ b) (xorL vs ws) = foldN a vs ^^^ foldN b ws
  | [], [], a, b, _ => rfl
  | v :: vs, w :: ws, a, b, h => by
    show foldN (stepN (a ^^^ b) (v ^^^ w)) (xorL vs ws) = _
    rw [stepN_xor]
    exact foldN_xor vs ws _ _ (by simpa using h)
  | [], _ :: _, _, _, h => by simp at h
  | _ :: _, [], _, _, h => by simp at h
theorem polyN_append (a b : List Nat) : polyN (a ++ b) = foldN (polyN a) b := by simp [polyN, foldN]

theorem gx_lt (top i : Nat) : gx top i < 2 ^ 30 := by
  rw [gx_bit]
  split
  · match i with
    | 0 | 1 | 2 | 3 | 4 => decide
    | i + 5 => simp [gensN]
  · decide
theorem inN_lt (top : Nat) : ∀ (k c : Nat), c < 2 ^ 30 → inN top k c < 2 ^ 30
  | 0, c, h => h
  | k + 1, c, h => Nat.xor_lt_two_pow (inN_lt top k c h) (gx_lt top k)
theorem stepN_lt (c v : Nat) (h : v < 2 ^ 30) : stepN c v < 2 ^ 30 := by
  unfold stepN
  refine inN_lt _ _ _ (Nat.xor_lt_two_pow ?_ h)
  rw [Nat.shiftLeft_eq]
  have : c &&& 33554431 ≤ 33554431 := Nat.and_le_right
  omega
theorem foldN_lt : ∀ (vs : List Nat) (s : Nat), s < 2 ^ 30 → (∀ v ∈ vs, v < 2 ^ 30) → foldN s vs < 2 ^ 30
  | [], s, h, _ => h
  | v :: vs, s, h, hv => foldN_lt vs _ (stepN_lt s v (hv v (List.mem_cons_self ..))) fun w hw => hv w (List.mem_cons_of_mem _ hw)

theorem or_low {x v k : Nat} (h : v < 2 ^ k) : (x <<< k) ||| v = x * 2 ^ k + v := by
  rw [← Nat.shiftLeft_add_eq_or_of_lt h, Nat.shiftLeft_eq]
theorem xor_low {x v k : Nat} (h : v < 2 ^ k) : (x <<< k) ^^^ v = x * 2 ^ k + v := by
  have h1 := or_low (x := x) h
  have h2 := and_or_sum (x <<< k) v
  have h3 := xor_and_sum (x <<< k) v
  rw [Nat.shiftLeft_eq] at *
  omega
theorem inN_zero : ∀ (k c : Nat), inN 0 k c = c
  | 0, c => rfl
  | k + 1, c => by
    simp only [inN]
    rw [inN_zero k c, gx_bit]; simp
theorem stepN_small {x v : Nat} (hx : x < 2 ^ 25) (hv : v < 32) : stepN x v = x * 32 + v := by
  unfold stepN
  rw [Nat.shiftRight_eq_div_pow, Nat.div_eq_of_lt hx, inN_zero]
  have : x &&& 33554431 = x := by
    rw [show 33554431 = 2 ^ 25 - 1 from rfl, Nat.and_two_pow_sub_one_eq_mod, Nat.mod_eq_of_lt hx]
  rw [this, xor_low (k := 5) hv]
theorem pack6 {a b c d e f : Nat} (ha : a < 32) (hb : b < 32) (hc : c < 32) (hd : d < 32) (he : e < 32) (hf : f < 32) :
    foldN 0 [a, b, c, d, e, f] = ((((a * 32 + b) * 32 + c) * 32 + d) * 32 + e) * 32 + f := by
  show stepN (stepN (stepN (stepN (stepN (stepN 0 a) b) c) d) e) f = _
  rw [stepN_small (x := 0) (by decide) ha, stepN_small (by omega) hb, stepN_small (by omega) hc, stepN_small (by omega) hd, stepN_small (by omega) he, stepN_small (by omega) hf]
  omega

theorem create_pack {hrp data : List Nat} (h : pmN hrp data < 2 ^ 30) : foldN 0 (createN hrp data) = pmN hrp data := by
  have e : createN hrp data = [(pmN hrp data >>> 25) &&& 31, (pmN hrp data >>> 20) &&& 31, (pmN hrp data >>> 15) &&& 31, (pmN hrp data >>> 10) &&& 31, (pmN hrp data >>> 5) &&& 31, (pmN hrp data >>> 0) &&& 31] := rfl
  rw [e]
  generalize pmN hrp data = c at h ⊢
  have m : ∀ x, x &&& 31 = x % 32 := fun x => by rw [show 31 = 2 ^ 5 - 1 from rfl, Nat.and_two_pow_sub_one_eq_mod]
  rw [pack6 (by rw [m]; omega) (by rw [m]; omega) (by rw [m]; omega) (by rw [m]; omega) (by rw [m]; omega) (by rw [m]; omega)]
  simp only [m, Nat.shiftRight_eq_div_pow]
  omega

theorem expandN_lt {h : List Nat} (hh : ∀ c ∈ h, c < 1000) : ∀ v ∈ expandN h, v < 2 ^ 30 := fun v hv => by
  unfold expandN at hv
  simp only [List.mem_append, List.mem_map, List.mem_cons, List.not_mem_nil, or_false] at hv
  rcases hv with (⟨c, hc, rfl⟩ | rfl) | ⟨c, hc, rfl⟩
  · have := hh c hc
    rw [Nat.shiftRight_eq_div_pow]; omega
  · decide
  · exact Nat.lt_of_le_of_lt Nat.and_le_right (by decide)

/-- the checksum checks -/
theorem verify_ok {hrp data : List Nat} (hh : ∀ c ∈ hrp, c < 1000) (hd : ∀ d ∈ data, d < 32) : polyN (expandN hrp ++ (data ++ createN hrp data)) = 1 := by
  have hall : ∀ v ∈ expandN hrp ++ data ++ [0, 0, 0, 0, 0, 0], v < 2 ^ 30 := fun v hv => by
    rcases List.mem_append.mp hv with hv | hv
    · rcases List.mem_append.mp hv with hv | hv
      · exact expandN_lt hh v hv
      · have := hd v hv; omega
    · simp at hv; rw [hv]; decide
  have hP : polyN (expandN hrp ++ data ++ [0, 0, 0, 0, 0, 0]) < 2 ^ 30 := foldN_lt _ 1 (by decide) hall
  have hpm : pmN hrp data < 2 ^ 30 := Nat.xor_lt_two_pow hP (by decide)
  have hc := create_pack hpm
  rw [← List.append_assoc, polyN_append]
  have hlen := createN_length hrp data
  have hz : xorL [0, 0, 0, 0, 0, 0] (createN hrp data) = createN hrp data := by
    generalize createN hrp data = l at hlen
    match l, hlen with
    | [a, b, c, d, e, f], _ => simp
  have := foldN_xor [0, 0, 0, 0, 0, 0] (createN hrp data) (polyN (expandN hrp ++ data)) 0 (by rw [hlen]; rfl)
  rw [hz, Nat.xor_zero, hc] at this
  show foldN _ _ = 1
  rw [this, ← polyN_append]
  show _ ^^^ (_ ^^^ 1) = 1
  rw [← Nat.xor_assoc, Nat.xor_self, Nat.zero_xor]
end Mine

namespace Mine

/-! convertbits there and back -/
def numB (B : Nat) (l : List Nat) : Nat := l.foldl (fun x v => x * B + v) 0
theorem numB_snoc (B : Nat) (l : List Nat) (v : Nat) : numB B (l ++ [v]) = numB B l * B + v := by simp [numB]

theorem mask_mod (x k : Nat) : x &&& ((1 <<< k) - 1) = x % 2 ^ k := by
  rw [Nat.one_shiftLeft, Nat.and_two_pow_sub_one_eq_mod]

theorem drain_num (tb acc : Nat) (h : 1 ≤ tb) : ∀ (k bits : Nat) (ret : List Nat),
    numB (2 ^ tb) (drainC tb acc k bits ret).2 * 2 ^ (drainC tb acc k bits ret).1 + acc % 2 ^ (drainC tb acc k bits ret).1 = numB (2 ^ tb) ret * 2 ^ bits + acc % 2 ^ bits
  | 0, bits, ret => rfl
  | k + 1, bits, ret => by
    unfold drainC
    split
    · rename_i hb
      rw [drain_num tb acc h k, numB_snoc, mask_mod, Nat.shiftRight_eq_div_pow]
      have e : 2 ^ bits = 2 ^ (bits - tb) * 2 ^ tb := by rw [← Nat.pow_add]; congr 1; omega
      rw [e, Nat.mod_mul, Nat.add_mul, Nat.mul_assoc, Nat.mul_comm (2 ^ tb) (2 ^ (bits - tb)), Nat.mul_comm _ (2 ^ (bits - tb))]
      omega
    · rfl
theorem acc_num {fb tb acc v bits : Nat} (hv : v < 2 ^ fb) (hb : bits + 1 ≤ tb) : accC fb tb acc v % 2 ^ (bits + fb) = (acc % 2 ^ bits) * 2 ^ fb + v := by
  unfold accC
  rw [mask_mod, or_low hv]
  have e : 2 ^ (fb + tb - 1) = 2 ^ (bits + fb) * 2 ^ (tb - 1 - bits) := by rw [← Nat.pow_add]; congr 1; omega
  rw [e, Nat.mod_mul_right_mod]
  rw [Nat.pow_add, Nat.mul_comm (2 ^ bits) (2 ^ fb), Nat.mod_mul]
  rw [Nat.mul_comm acc, Nat.mul_add_mod, Nat.mod_eq_of_lt hv, Nat.mul_add_div (Nat.two_pow_pos _), Nat.div_eq_of_lt hv, Nat.add_zero]
  rw [Nat.mul_comm (acc % 2 ^ bits)]
  omega
theorem conv_num {fb tb : Nat} (h : 1 ≤ tb) : ∀ (data : List Nat), (∀ v ∈ data, v < 2 ^ fb) →
    numB (2 ^ tb) (convC fb tb data).2.2 * 2 ^ (convC fb tb data).2.1 + (convC fb tb data).1 % 2 ^ (convC fb tb data).2.1 = numB (2 ^ fb) data := by
  intro data hd
  have key : ∀ k, k ≤ data.length → numB (2 ^ tb) (convC fb tb (data.take k)).2.2 * 2 ^ (convC fb tb (data.take k)).2.1 + (convC fb tb (data.take k)).1 % 2 ^ (convC fb tb (data.take k)).2.1 = numB (2 ^ fb) (data.take k) := by
    intro k hk
    induction k with
    | zero => simp [convC, numB]
    | succ k ih =>
      have hk' : k < data.length := hk
      have ih := ih (by omega)
      have I := convC_inv (fb := fb) h (data.take k)
      rw [take_snoc (List.getElem?_eq_getElem hk'), convC_snoc, numB_snoc, ← ih]
      have hv := hd _ (List.getElem_mem hk')
      generalize data[k] = v at hv
      generalize convC fb tb (data.take k) = st at I
      obtain ⟨acc, bits, ret⟩ := st
      obtain ⟨_, I2, _⟩ := I
      simp only at I2
      show numB (2 ^ tb) (drainC tb (accC fb tb acc v) (bits + fb) (bits + fb) ret).2 * 2 ^ (drainC tb (accC fb tb acc v) (bits + fb) (bits + fb) ret).1 + accC fb tb acc v % 2 ^ (drainC tb (accC fb tb acc v) (bits + fb) (bits + fb) ret).1 = _
      rw [drain_num tb _ h, acc_num hv (by omega)]
      simp only
      rw [Nat.pow_add, Nat.add_mul, Nat.mul_assoc, Nat.mul_comm (2 ^ bits) (2 ^ fb)]
      omega
  have := key data.length (Nat.le_refl _)
  rwa [List.take_length] at this

theorem drain_lt (tb acc : Nat) : ∀ (k bits : Nat) (ret : List Nat), (∀ v ∈ ret, v < 2 ^ tb) → ∀ v ∈ (drainC tb acc k bits ret).2, v < 2 ^ tb
  | 0, bits, ret, h => h
  | k + 1, bits, ret, h => by
    unfold drainC
    split
    · refine drain_lt tb acc k _ _ fun v hv => ?_
      rcases List.mem_append.mp hv with hv | hv
      · exact h v hv
      · simp only [List.mem_cons, List.not_mem_nil, or_false] at hv
        rw [hv, mask_mod]; exact Nat.mod_lt _ (Nat.two_pow_pos _)
    · exact h
theorem conv_lt (fb tb : Nat) (data : List Nat) : ∀ v ∈ (convC fb tb data).2.2, v < 2 ^ tb := by
  have key : ∀ (l : List Nat) (st : Nat × Nat × List Nat), (∀ v ∈ st.2.2, v < 2 ^ tb) → ∀ v ∈ (l.foldl (stepC fb tb) st).2.2, v < 2 ^ tb := by
    intro l
    induction l with
    | nil => intro st h; exact h
    | cons a l ih => intro st h; exact ih _ (drain_lt _ _ _ _ _ h)
  exact key data _ fun v h => by cases h

theorem numB_lt {B : Nat} (hB : 1 ≤ B) : ∀ (l : List Nat), (∀ v ∈ l, v < B) → numB B l < B ^ l.length := by
  intro l hl
  have key : ∀ k, k ≤ l.length → numB B (l.take k) < B ^ k := by
    intro k hk
    induction k with
    | zero => simp [numB]
    | succ k ih =>
      have hk' : k < l.length := hk
      have ih := ih (by omega)
      rw [take_snoc (List.getElem?_eq_getElem hk'), numB_snoc, Nat.pow_succ]
      have hv := hl _ (List.getElem_mem hk')
      have : (numB B (l.take k) + 1) * B ≤ B ^ k * B := Nat.mul_le_mul_right B ih
      rw [Nat.add_mul, Nat.one_mul] at this
      omega
  have := key l.length (Nat.le_refl _)
  rwa [List.take_length] at this
theorem numB_cons (B : Nat) (a : Nat) (l : List Nat) : numB B (a :: l) = a * B ^ l.length + numB B l := by
  have key : ∀ (l : List Nat) (x : Nat), l.foldl (fun x v => x * B + v) x = x * B ^ l.length + numB B l := by
    intro l
    induction l with
    | nil => intro x; simp [numB]
    | cons b l ih =>
      intro x
      have h1 := ih (x * B + b)
      have h2 := ih b
      show l.foldl (fun x v => x * B + v) (x * B + b) = _ + l.foldl (fun x v => x * B + v) (0 * B + b)
      rw [h1, Nat.zero_mul, Nat.zero_add, h2, List.length_cons, Nat.pow_succ, Nat.add_mul, Nat.mul_assoc, Nat.mul_comm B]
      omega
  show l.foldl (fun x v => x * B + v) (0 * B + a) = _
  rw [key, Nat.zero_mul, Nat.zero_add]
theorem numB_inj {B : Nat} (hB : 1 ≤ B) : ∀ (l m : List Nat), l.length = m.length → (∀ v ∈ l, v < B) → (∀ v ∈ m, v < B) → numB B l = numB B m → l = m
  | [], [], _, _, _, _ => rfl
  | a :: l, b :: m, hlen, hl, hm, e => by
    have hlen' : l.length = m.length := by simpa using hlen
    rw [numB_cons, numB_cons, hlen'] at e
    have h1 := numB_lt hB l fun v hv => hl v (List.mem_cons_of_mem _ hv)
    have h2 := numB_lt hB m fun v hv => hm v (List.mem_cons_of_mem _ hv)
    rw [hlen'] at h1
    have hpos : 0 < B ^ m.length := Nat.pow_pos (by omega)
    have hd := congrArg (· / B ^ m.length) e
    simp only [Nat.mul_comm _ (B ^ m.length), Nat.mul_add_div hpos, Nat.div_eq_of_lt h1, Nat.div_eq_of_lt h2, Nat.add_zero] at hd
    subst hd
    have : numB B l = numB B m := by omega
    rw [numB_inj hB l m hlen' (fun v hv => hl v (List.mem_cons_of_mem _ hv)) (fun v hv => hm v (List.mem_cons_of_mem _ hv)) this]
  | [], _ :: _, h, _, _, _ => by simp at h
  | _ :: _, [], h, _, _, _ => by simp at h

/-- five bits a piece: how many are added at the end -/
theorem padC_num {p : List Nat} (hp : ∀ v ∈ p, v < 256) : ∃ t, t ≤ 4 ∧ 5 * (padC 8 5 p).length = 8 * p.length + t ∧ numB 32 (padC 8 5 p) = numB 256 p * 2 ^ t := by
  have hn := conv_num (fb := 8) (tb := 5) (by decide) p hp
  obtain ⟨I1, I2, I3⟩ := convC_inv (fb := 8) (tb := 5) (by decide) p
  unfold padC
  simp only
  generalize convC 8 5 p = st at hn I1 I2 I3
  obtain ⟨acc, bits, ret⟩ := st
  simp only at hn I1 I2 I3 ⊢
  split
  · rename_i hb
    have hb : bits ≠ 0 := by simpa using hb
    refine ⟨5 - bits, by omega, by rw [List.length_append, List.length_singleton]; omega, ?_⟩
    rw [show (32 : Nat) = 2 ^ 5 from rfl, numB_snoc, show (256 : Nat) = 2 ^ 8 from rfl, ← hn]
    rw [show maskN 5 = (1 <<< 5) - 1 from rfl, mask_mod, Nat.shiftLeft_eq]
    have e : 2 ^ 5 = 2 ^ bits * 2 ^ (5 - bits) := by rw [← Nat.pow_add]; congr 1; omega
    have e2 : acc * 2 ^ (5 - bits) % 2 ^ 5 = acc % 2 ^ bits * 2 ^ (5 - bits) := by rw [e, Nat.mul_mod_mul_right]
    rw [e2, Nat.add_mul, Nat.mul_assoc, ← e]
  · rename_i hb
    have hb : bits = 0 := by simpa using hb
    subst hb
    refine ⟨0, by decide, by omega, ?_⟩
    rw [show (32 : Nat) = 2 ^ 5 from rfl, show (256 : Nat) = 2 ^ 8 from rfl, ← hn]
    omega
theorem strict_pad {p : List Nat} (hp : ∀ v ∈ p, v < 256) : strictC 5 8 (padC 8 5 p) = some p := by
  obtain ⟨t, ht, hl, hnum⟩ := padC_num hp
  have hlt := padC_lt p
  have hn := conv_num (fb := 5) (tb := 8) (by decide) (padC 8 5 p) hlt
  have hl2 := conv_lt 5 8 (padC 8 5 p)
  obtain ⟨I1, I2, I3⟩ := convC_inv (fb := 5) (tb := 8) (by decide) (padC 8 5 p)
  unfold strictC
  simp only
  generalize convC 5 8 (padC 8 5 p) = st at hn hl2 I1 I2 I3
  obtain ⟨acc, bits, ret⟩ := st
  simp only at hn hl2 I1 I2 I3 ⊢
  rw [show (2 : Nat) ^ 5 = 32 from rfl, hnum] at hn
  have hbt : bits = t := by omega
  subst hbt
  have hlen : ret.length = p.length := by omega
  have hm : acc % 2 ^ bits < 2 ^ bits := Nat.mod_lt _ (Nat.two_pow_pos _)
  have e1 : numB (2 ^ 8) ret = numB 256 p := by
    have := congrArg (· / 2 ^ bits) hn
    simp only [Nat.mul_comm _ (2 ^ bits), Nat.mul_add_div (Nat.two_pow_pos _), Nat.div_eq_of_lt hm, Nat.add_zero, Nat.mul_div_cancel_left _ (Nat.two_pow_pos bits)] at this
    exact this
  have e2 : acc % 2 ^ bits = 0 := by rw [e1] at hn; omega
  have e3 : ret = p := numB_inj (B := 256) (by decide) ret p hlen hl2 hp e1
  have e4 : (acc <<< (8 - bits)) &&& maskN 8 = 0 := by
    rw [show maskN 8 = (1 <<< 8) - 1 from rfl, mask_mod, Nat.shiftLeft_eq]
    have e : 2 ^ 8 = 2 ^ bits * 2 ^ (8 - bits) := by rw [← Nat.pow_add]; congr 1; omega
    rw [e, Nat.mul_mod_mul_right, e2, Nat.zero_mul]
  rw [e4, e3]
  have : decide (5 ≤ bits) = false := by simp; omega
  rw [this]; rfl
end Mine

namespace Mine

theorem char_facts : ∀ d < 32, idxN (charN d) = d ∧ charN d ∈ charsN ∧ charN d ≠ 49 ∧ 33 ≤ charN d ∧ charN d ≤ 126 ∧ lo1 (charN d) = charN d ∧ lo1 (up1 (charN d)) = charN d ∧ 33 ≤ up1 (charN d) ∧ up1 (charN d) ≤ 126 := by decide +kernel

theorem idx_chars {l : List Nat} (h : ∀ d ∈ l, d < 32) : (l.map charN).map idxN = l := by
  rw [List.map_map]
  conv => rhs; rw [← List.map_id l]
  exact List.map_congr_left fun d hd => (char_facts d (h d hd)).1

/-- an address in its plain form, taken apart -/
theorem decT_plain {h D : List Nat} (hD : ∀ d ∈ D, d < 32) (hv : polyN (expandN h ++ D) = 1) : decT (h ++ [49] ++ D.map charN) h.length = some (h, D.take (D.length - 6)) := by
  have e1 : (h ++ [49] ++ D.map charN).drop (h.length + 1) = D.map charN := by
    rw [List.drop_append_of_le_length (by simp), List.drop_of_length_le (by simp)]; rfl
  have e2 : (h ++ [49] ++ D.map charN).take h.length = h := by
    rw [List.append_assoc, List.take_append_of_le_length (Nat.le_refl _), List.take_of_length_le (Nat.le_refl _)]
  unfold decT
  rw [e1, e2, idx_chars hD, hv]
  have hall : ((D.map charN).all fun c => decide (c ∈ charsN)) = true := by
    rw [List.all_eq_true]
    intro c hc
    obtain ⟨d, hd, rfl⟩ := List.mem_map.mp hc
    simpa using (char_facts d (hD d hd)).2.1
  rw [hall]; rfl

theorem rpos_plain {h D : List Nat} (hD : ∀ d ∈ D, d < 32) : rposN (h ++ [49] ++ D.map charN) = (h.length : Int) := by
  unfold rposN
  have : h ++ [49] ++ D.map charN = h ++ 49 :: D.map charN := by simp
  rw [this]
  refine rfind_one fun hm => ?_
  obtain ⟨d, hd, e⟩ := List.mem_map.mp hm
  exact (char_facts d (hD d hd)).2.2.1 e

theorem lo1_fit {c : Nat} (h : fitC c) : lo1 c = c := by unfold lo1 fitC at *; rw [if_neg (by omega)]
theorem lo_up_fit {c : Nat} (h : fitC c) : lo1 (up1 c) = c := by unfold lo1 up1 fitC at *; split <;> split <;> omega
theorem up_fit {c : Nat} (h : fitC c) : 33 ≤ up1 c ∧ up1 c ≤ 126 := by unfold up1 fitC at *; split <;> omega
theorem up_up (c : Nat) : up1 (up1 c) = up1 c := by
  unfold up1
  by_cases h : 97 ≤ c ∧ c ≤ 122
  · rw [if_pos h, if_neg (by omega)]
  · rw [if_neg h, if_neg h]

theorem low_plain {h D : List Nat} (hh : ∀ c ∈ h, fitC c) (hD : ∀ d ∈ D, d < 32) : lowN (h ++ [49] ++ D.map charN) = h ++ [49] ++ D.map charN := by
  unfold lowN
  rw [List.map_append, List.map_append]
  congr 1
  · congr 1
    conv => rhs; rw [← List.map_id h]
    exact List.map_congr_left fun c hc => lo1_fit (hh c hc)
  · rw [List.map_map]
    exact List.map_congr_left fun d hd => (char_facts d (hD d hd)).2.2.2.2.2.1
theorem low_up_plain {h D : List Nat} (hh : ∀ c ∈ h, fitC c) (hD : ∀ d ∈ D, d < 32) : lowN (upN (h ++ [49] ++ D.map charN)) = h ++ [49] ++ D.map charN := by
  unfold lowN upN
  rw [List.map_append, List.map_append, List.map_append, List.map_append]
  congr 1
  · congr 1
    rw [List.map_map]
    conv => rhs; rw [← List.map_id h]
    exact List.map_congr_left fun c hc => lo_up_fit (hh c hc)
  · rw [List.map_map, List.map_map]
    exact List.map_congr_left fun d hd => (char_facts d (hD d hd)).2.2.2.2.2.2.1
theorem mem_plain {h D : List Nat} {c : Nat} (hc : c ∈ h ++ [49] ++ D.map charN) : c ∈ h ∨ c = 49 ∨ ∃ d ∈ D, charN d = c := by
  simp only [List.mem_append, List.mem_cons, List.not_mem_nil, or_false, List.mem_map] at hc
  rcases hc with (hc | hc) | hc
  · exact .inl hc
  · exact .inr (.inl hc)
  · exact .inr (.inr hc)
theorem notbad {s : List Nat} (h : ∀ c ∈ s, 33 ≤ c ∧ c ≤ 126) : s.any badC = false := by
  rw [List.any_eq_false]
  intro c hc
  have := h c hc
  simp [badC]; omega

theorem decB_plain {h D : List Nat} (hg : GoodH h) (hD : ∀ d ∈ D, d < 32) (h6 : 6 ≤ D.length) (hv : polyN (expandN h ++ D) = 1) : decB (h ++ [49] ++ D.map charN) = some (h, D.take (D.length - 6)) := by
  obtain ⟨g1, g2, g3⟩ := hg
  have hb : (h ++ [49] ++ D.map charN).any badC = false := notbad fun c hc => by
    rcases mem_plain hc with hc | rfl | ⟨d, hd, rfl⟩
    · have := g3 c hc; unfold fitC at this; omega
    · decide
    · have := char_facts d (hD d hd); omega
  unfold decB
  rw [hb, low_plain g3 hD, rpos_plain hD, Int.toNat_natCast, decT_plain hD hv]
  have e1 : (false || ((h ++ [49] ++ D.map charN != h ++ [49] ++ D.map charN && (upN (h ++ [49] ++ D.map charN) != h ++ [49] ++ D.map charN && true)) || false)) = false := by simp
  rw [e1]
  have e2 : (decide ((h.length : Int) < 1) || (decide (83 < (h.length : Int)) || (decide (((h ++ [49] ++ D.map charN).length : Int) < (h.length : Int) + 7) || false))) = false := by
    simp; omega
  rw [e2]; rfl
theorem decB_up {h D : List Nat} (hg : GoodH h) (hD : ∀ d ∈ D, d < 32) (h6 : 6 ≤ D.length) (hv : polyN (expandN h ++ D) = 1) : decB (upN (h ++ [49] ++ D.map charN)) = some (h, D.take (D.length - 6)) := by
  obtain ⟨g1, g2, g3⟩ := hg
  have hb : (upN (h ++ [49] ++ D.map charN)).any badC = false := notbad fun c hc => by
    obtain ⟨c', hc', rfl⟩ := List.mem_map.mp hc
    rcases mem_plain hc' with hc' | rfl | ⟨d, hd, rfl⟩
    · exact up_fit (g3 c' hc')
    · decide
    · have := char_facts d (hD d hd); omega
  have hu : upN (upN (h ++ [49] ++ D.map charN)) = upN (h ++ [49] ++ D.map charN) := by
    unfold upN
    rw [List.map_map]
    exact List.map_congr_left fun c _ => up_up c
  unfold decB
  rw [hb, low_up_plain g3 hD, rpos_plain hD, Int.toNat_natCast, decT_plain hD hv, hu]
  have e1 : (false || ((h ++ [49] ++ D.map charN != upN (h ++ [49] ++ D.map charN) && (upN (h ++ [49] ++ D.map charN) != upN (h ++ [49] ++ D.map charN) && true)) || false)) = false := by simp
  rw [e1]
  have e2 : (decide ((h.length : Int) < 1) || (decide (83 < (h.length : Int)) || (decide (((h ++ [49] ++ D.map charN).length : Int) < (h.length : Int) + 7) || false))) = false := by
    simp; omega
  rw [e2]; rfl

theorem ver_data {v : Nat} {p : List Nat} (hv : Ver v) : ∀ d ∈ v :: padC 8 5 p, d < 32 := fun d hd => (List.mem_cons.mp hd).elim (fun e => by have := hv.2; omega) (padC_lt p d)

theorem bad_none {h D : List Nat} (hb : BadH h) (hD : ∀ d ∈ D, d < 32) (h' d' : List Nat) (e : decB (h ++ [49] ++ D.map charN) = some (h', d')) : (h' != h) = true := by
  unfold decB at e
  split at e
  · cases e
  rename_i hc
  split at e
  · cases e
  rename_i hc2
  simp only [Bool.or_eq_true, not_or] at hc
  have hr : ∀ c ∈ h ++ [49] ++ D.map charN, 33 ≤ c ∧ c ≤ 126 := fun c hm => by
    have := (List.any_eq_false.mp (by simpa using hc.1)) c hm
    simp [badC] at this; omega
  have hl : lowN (h ++ [49] ++ D.map charN) = lowN h ++ [49] ++ D.map charN := by
    unfold lowN
    rw [List.map_append, List.map_append]
    congr 1
    rw [List.map_map]
    exact List.map_congr_left fun d hd => (char_facts d (hD d hd)).2.2.2.2.2.1
  have hll : (lowN h).length = h.length := by simp [lowN]
  rw [hl, rpos_plain hD, hll] at e hc2
  rw [Int.toNat_natCast] at e
  simp only [Bool.or_false, Bool.or_eq_true, decide_eq_true_eq, not_or] at hc2
  rcases hb with hb | hb | ⟨c, hm, hf⟩
  · omega
  · omega
  · have hh' : h' = lowN h := by
      unfold decT at e
      split at e
      · cases e
      · split at e
        · cases e
        · cases e
          rw [← hll, List.append_assoc, List.take_append_of_le_length (Nat.le_refl _), List.take_of_length_le (Nat.le_refl _)]
    subst hh'
    have hcr := hr c (by simp [hm])
    simp only [bne_iff_ne, ne_eq]
    intro z
    have hm' : c ∈ lowN h := by rw [z]; exact hm
    obtain ⟨c', _, hc'⟩ := List.mem_map.mp hm'
    unfold fitC at hf
    unfold lo1 at hc'
    split at hc' <;> omega

theorem codec : Codec where
  bad := fun h v p hb hv hp => by
    have hD : ∀ d ∈ (v :: padC 8 5 p) ++ createN h (v :: padC 8 5 p), d < 32 := fun d hd => (List.mem_append.mp hd).elim (ver_data hv d) (createN_lt _ _ d)
    have key := fun h' d' => bad_none hb hD h' d'
    have e : textN h v p = h ++ [49] ++ ((v :: padC 8 5 p) ++ createN h (v :: padC 8 5 p)).map charN := rfl
    unfold encN decN
    rw [e]
    cases hdb : decB (h ++ [49] ++ ((v :: padC 8 5 p) ++ createN h (v :: padC 8 5 p)).map charN) with
    | none => rfl
    | some r =>
      obtain ⟨h', d'⟩ := r
      simp only
      rw [if_pos (key h' d' hdb)]
  good := fun h v p hg hv hp => by
    have hD : ∀ d ∈ (v :: padC 8 5 p) ++ createN h (v :: padC 8 5 p), d < 32 := fun d hd => (List.mem_append.mp hd).elim (ver_data hv d) (createN_lt _ _ d)
    have hl := createN_length h (v :: padC 8 5 p)
    have := decB_plain hg hD (by rw [List.length_append, hl]; omega) (verify_ok (fun c hc => by have := hg.2.2 c hc; unfold fitC at this; omega) (ver_data hv))
    rw [List.length_append, hl, Nat.add_sub_cancel, List.take_append_of_le_length (Nat.le_refl _), List.take_of_length_le (Nat.le_refl _)] at this
    exact this
  up := fun h v p hg hv hp => by
    have hD : ∀ d ∈ (v :: padC 8 5 p) ++ createN h (v :: padC 8 5 p), d < 32 := fun d hd => (List.mem_append.mp hd).elim (ver_data hv d) (createN_lt _ _ d)
    have hl := createN_length h (v :: padC 8 5 p)
    have := decB_up hg hD (by rw [List.length_append, hl]; omega) (verify_ok (fun c hc => by have := hg.2.2 c hc; unfold fitC at this; omega) (ver_data hv))
    rw [List.length_append, hl, Nat.add_sub_cancel, List.take_append_of_le_length (Nat.le_refl _), List.take_of_length_le (Nat.le_refl _)] at this
    exact this
  strict := fun p hp => strict_pad hp.2.2
end Mine

namespace Mine

/-! convertbits is xor-linear -/
theorem or_eq_xor {x v k : Nat} (h : v < 2 ^ k) : (x <<< k) ||| v = (x <<< k) ^^^ v := by rw [or_low h, xor_low h]
theorem accC_xor {fb tb a b v w : Nat} (hv : v < 2 ^ fb) (hw : w < 2 ^ fb) : accC fb tb (a ^^^ b) (v ^^^ w) = accC fb tb a v ^^^ accC fb tb b w := by
  unfold accC
  rw [or_eq_xor hv, or_eq_xor hw, or_eq_xor (Nat.xor_lt_two_pow hv hw), Nat.shiftLeft_xor_distrib, xor_four, Nat.and_xor_distrib_right]
theorem xorL_snoc {r s : List Nat} (h : r.length = s.length) (a b : Nat) : xorL (r ++ [a]) (s ++ [b]) = xorL r s ++ [a ^^^ b] := by
  unfold xorL; rw [List.zipWith_append h]; rfl
theorem drainC_xor {tb : Nat} (a b : Nat) : ∀ (k bits : Nat) (r s : List Nat), r.length = s.length →
    (drainC tb a k bits r).1 = (drainC tb b k bits s).1 ∧ (drainC tb a k bits r).2.length = (drainC tb b k bits s).2.length ∧
      drainC tb (a ^^^ b) k bits (xorL r s) = ((drainC tb a k bits r).1, xorL (drainC tb a k bits r).2 (drainC tb b k bits s).2)
  | 0, bits, r, s, h => ⟨rfl, h, rfl⟩
  | k + 1, bits, r, s, h => by
    unfold drainC
    by_cases hb : tb ≤ bits
    · simp only [if_pos hb]
      rw [Nat.shiftRight_xor_distrib, Nat.and_xor_distrib_right, ← xorL_snoc h]
      exact drainC_xor a b k _ _ _ (by simp [h])
    · simp only [if_neg hb]
      exact ⟨trivial, h, trivial⟩
structure LinC (st₁ st₂ st : Nat × Nat × List Nat) : Prop where
  bits : st₁.2.1 = st₂.2.1
  len : st₁.2.2.length = st₂.2.2.length
  acc : st.1 = st₁.1 ^^^ st₂.1
  bits' : st.2.1 = st₁.2.1
  ret : st.2.2 = xorL st₁.2.2 st₂.2.2
theorem stepC_xor {fb tb v w : Nat} {st₁ st₂ st : Nat × Nat × List Nat} (h : LinC st₁ st₂ st) (hv : v < 2 ^ fb) (hw : w < 2 ^ fb) : LinC (stepC fb tb st₁ v) (stepC fb tb st₂ w) (stepC fb tb st (v ^^^ w)) := by
  obtain ⟨a₁, b₁, r₁⟩ := st₁
  obtain ⟨a₂, b₂, r₂⟩ := st₂
  obtain ⟨a, b, r⟩ := st
  obtain ⟨h1, h2, h3, h4, h5⟩ := h
  simp only at h1 h2 h3 h4 h5
  subst h1 h3 h5
  subst h4
  unfold stepC
  simp only
  obtain ⟨x, y, z⟩ := drainC_xor (tb := tb) (accC fb tb a₁ v) (accC fb tb a₂ w) (b + fb) (b + fb) r₁ r₂ h2
  exact ⟨x, y, accC_xor hv hw, by show (drainC tb (accC fb tb (a₁ ^^^ a₂) (v ^^^ w)) (b + fb) (b + fb) (xorL r₁ r₂)).1 = _; rw [accC_xor hv hw, z], by
    show (drainC tb (accC fb tb (a₁ ^^^ a₂) (v ^^^ w)) (b + fb) (b + fb) (xorL r₁ r₂)).2 = _; rw [accC_xor hv hw, z]⟩
theorem convC_xor {fb tb : Nat} : ∀ (p q : List Nat) (st₁ st₂ st : Nat × Nat × List Nat), p.length = q.length → (∀ v ∈ p, v < 2 ^ fb) → (∀ v ∈ q, v < 2 ^ fb) → LinC st₁ st₂ st → LinC (p.foldl (stepC fb tb) st₁) (q.foldl (stepC fb tb) st₂) ((xorL p q).foldl (stepC fb tb) st)
  | [], [], _, _, _, _, _, _, h => h
  | v :: p, w :: q, st₁, st₂, st, hl, hp, hq, h =>
    convC_xor p q _ _ _ (by simpa using hl) (fun x hx => hp x (List.mem_cons_of_mem _ hx)) (fun x hx => hq x (List.mem_cons_of_mem _ hx)) (stepC_xor h (hp v (List.mem_cons_self ..)) (hq w (List.mem_cons_self ..)))
  | [], _ :: _, _, _, _, h, _, _, _ => by simp at h
  | _ :: _, [], _, _, _, h, _, _, _ => by simp at h
theorem padC_xor {p q : List Nat} (hl : p.length = q.length) (hp : ∀ v ∈ p, v < 256) (hq : ∀ v ∈ q, v < 256) : padC 8 5 (xorL p q) = xorL (padC 8 5 p) (padC 8 5 q) := by
  have h : LinC (convC 8 5 p) (convC 8 5 q) (convC 8 5 (xorL p q)) := convC_xor (fb := 8) (tb := 5) p q (0, 0, []) (0, 0, []) (0, 0, []) hl hp hq ⟨rfl, rfl, rfl, rfl, rfl⟩
  unfold padC
  simp only
  generalize convC 8 5 p = s₁ at h
  generalize convC 8 5 q = s₂ at h
  generalize convC 8 5 (xorL p q) = s at h
  obtain ⟨h1, h2, h3, h4, h5⟩ := h
  rw [h3, h4, h5, ← h1]
  split
  · rw [Nat.shiftLeft_xor_distrib, Nat.and_xor_distrib_right, xorL_snoc h2]
  · rfl

/-! the law's run is polymod's linear part -/
def packS (s : Six) : Nat := ((((s.u * 32 + s.v) * 32 + s.w) * 32 + s.x) * 32 + s.y) * 32 + s.z
def xorS (a b : Six) : Six := ⟨a.u ^^^ b.u, a.v ^^^ b.v, a.w ^^^ b.w, a.x ^^^ b.x, a.y ^^^ b.y, a.z ^^^ b.z⟩
theorem pack_xor {a b : Six} (ha : a.ok) (hb : b.ok) : packS a ^^^ packS b = packS (xorS a b) := by
  obtain ⟨a1, a2, a3, a4, a5, a6⟩ := ha
  obtain ⟨b1, b2, b3, b4, b5, b6⟩ := hb
  have x5 : ∀ {a b : Nat}, a < 32 → b < 32 → a ^^^ b < 32 := fun {a b} ha hb => Nat.xor_lt_two_pow (n := 5) ha hb
  have one : ∀ {x y v w : Nat}, v < 32 → w < 32 → (x * 32 + v) ^^^ (y * 32 + w) = (x ^^^ y) * 32 + (v ^^^ w) := fun {x y v w} hv hw => by
    rw [← xor_low (k := 5) hv, ← xor_low (k := 5) hw, ← xor_low (k := 5) (x5 hv hw), xor_four, Nat.shiftLeft_xor_distrib]
  unfold packS xorS
  rw [one a6 b6, one a5 b5, one a4 b4, one a3 b3, one a2 b2]
def genS (u : Nat) : Six := ⟨atT (byN 29) u, atT (byN 22) u, atT (byN 20) u, atT (byN 21) u, atT (byN 29) u, atT (byN 18) u⟩
theorem gen_facts : ∀ u < 32, inN u 5 0 = packS (genS u) := by decide +kernel
theorem genS_ok {u : Nat} (h : u < 32) : (genS u).ok := by
  have f : ∀ m ∈ [29, 22, 20, 21, 18], atT (byN m) u < 32 := fun m hm => (by_facts m hm).2 _ h
  exact ⟨f _ (by decide), f _ (by decide), f _ (by decide), f _ (by decide), f _ (by decide), f _ (by decide)⟩
theorem stepN_pack {s : Six} {value : Nat} (hs : s.ok) (hv : value < 32) : stepN (packS s) value = packS (stepS s value) := by
  obtain ⟨h1, h2, h3, h4, h5, h6⟩ := id hs
  have e1 : packS s >>> 25 = s.u := by rw [Nat.shiftRight_eq_div_pow]; unfold packS; omega
  have e2 : packS s &&& 33554431 = (((s.v * 32 + s.w) * 32 + s.x) * 32 + s.y) * 32 + s.z := by
    rw [show 33554431 = 2 ^ 25 - 1 from rfl, Nat.and_two_pow_sub_one_eq_mod]; unfold packS; omega
  unfold stepN
  rw [e1, e2, xor_low (k := 5) hv]
  have e3 : ((((s.v * 32 + s.w) * 32 + s.x) * 32 + s.y) * 32 + s.z) * 2 ^ 5 + value = packS ⟨s.v, s.w, s.x, s.y, s.z, value⟩ := rfl
  rw [e3]
  have e4 := inN_xor s.u 0 5 0 (packS ⟨s.v, s.w, s.x, s.y, s.z, value⟩)
  rw [Nat.xor_zero, Nat.zero_xor, inN_zero, gen_facts s.u h1, pack_xor (genS_ok h1) ⟨h2, h3, h4, h5, h6, hv⟩] at e4
  exact e4
theorem foldN_pack : ∀ (values : List Nat) (s : Six), s.ok → (∀ v ∈ values, v < 32) → foldN (packS s) values = packS (runS s values) ∧ (runS s values).ok
  | [], s, h, _ => ⟨rfl, h⟩
  | v :: values, s, h, hv => by
    have hv0 := hv v (List.mem_cons_self ..)
    have := foldN_pack values (stepS s v) (stepS_ok h hv0) fun w hw => hv w (List.mem_cons_of_mem _ hw)
    show foldN (stepN (packS s) v) values = _ ∧ _
    rw [stepN_pack h hv0]
    exact this
theorem foldN_list {s : Six} (h : s.ok) : foldN 0 s.list = packS s := by
  obtain ⟨h1, h2, h3, h4, h5, h6⟩ := h
  exact pack6 h1 h2 h3 h4 h5 h6
/-- a word with its own run behind it leaves nothing -/
theorem run_zero {l : List Nat} (hl : ∀ v ∈ l, v < 32) : foldN 0 (l ++ (runS zeroSix (l ++ [0, 0, 0, 0, 0, 0])).list) = 0 := by
  have h0 : ∀ v ∈ l ++ [0, 0, 0, 0, 0, 0], v < 32 := fun v hv => (List.mem_append.mp hv).elim (hl v) fun h => by simp at h; rw [h]; decide
  obtain ⟨e, ok⟩ := foldN_pack (l ++ [0, 0, 0, 0, 0, 0]) zeroSix zeroSix_ok h0
  have ep : packS zeroSix = 0 := rfl
  rw [ep] at e
  generalize runS zeroSix (l ++ [0, 0, 0, 0, 0, 0]) = r at e ok
  have hz : xorL [0, 0, 0, 0, 0, 0] r.list = r.list := by simp [Six.list]
  have := foldN_xor [0, 0, 0, 0, 0, 0] r.list (foldN 0 l) 0 rfl
  rw [hz, Nat.xor_zero, foldN_list ok] at this
  have e2 : foldN 0 (l ++ [0, 0, 0, 0, 0, 0]) = foldN (foldN 0 l) [0, 0, 0, 0, 0, 0] := by simp [foldN]
  have e3 : foldN 0 (l ++ r.list) = foldN (foldN 0 l) r.list := by simp [foldN]
  rw [e3, this, ← e2, e, Nat.xor_self]
end Mine

namespace Mine

def unitOf (n pl tn : Nat) : List Nat := (List.range n).map fun k => if decide (k = pl) = true then tn else 0
def bitsOf (n pl tn : Nat) : List Nat := (layAt 0 0 n pl tn 8).tail
theorem unit_lt {n pl tn : Nat} (ht : tn < 256) : ∀ d ∈ unitOf n pl tn, d < 256 := fun d hd => by
  obtain ⟨k, _, rfl⟩ := List.mem_map.mp hd
  split <;> omega
theorem unit_xor (n pl a b : Nat) : unitOf n pl (a ^^^ b) = xorL (unitOf n pl a) (unitOf n pl b) := by
  apply List.ext_getElem
  · simp [unitOf, xorL]
  · intro i h1 h2
    simp only [unitOf, xorL, List.getElem_map, List.getElem_range, List.getElem_zipWith]
    split <;> simp

/-- one bit alone -/
def oneBit (n pl k : Nat) : List Nat := (List.replicate ((8 * n + 4) / 5) 0).set ((8 * pl + k) / 5) (2 ^ (4 - (8 * pl + k) % 5))
theorem one_facts : ∀ n < 7, 2 ≤ n → ∀ pl < n, padC 8 5 (unitOf n pl 0) = List.replicate ((8 * n + 4) / 5) 0 ∧ ∀ k < 8, padC 8 5 (unitOf n pl (2 ^ (7 - k))) = oneBit n pl k := by decide +kernel

/-- the first bits of an octet -/
def preBits (tn i : Nat) : Nat := tn / 2 ^ (8 - i) * 2 ^ (8 - i)
theorem pre_succ {tn i : Nat} (hi : i < 8) : preBits tn (i + 1) = preBits tn i ^^^ (if decide (tn / 2 ^ (7 - i) % 2 = 1) = true then 2 ^ (7 - i) else 0) := by
  obtain ⟨j, hj⟩ : ∃ j, 7 - i = j := ⟨_, rfl⟩
  have e1 : 8 - i = j + 1 := by omega
  have e2 : 8 - (i + 1) = j := by omega
  unfold preBits
  rw [hj, e1, e2]
  have hp : 2 ^ (j + 1) = 2 ^ j * 2 := by rw [Nat.pow_succ]
  have hlt : 2 ^ j < 2 ^ (j + 1) := by rw [hp]; have := Nat.two_pow_pos j; omega
  have hd : tn / 2 ^ (j + 1) = tn / 2 ^ j / 2 := by rw [hp, Nat.div_div_eq_div_mul]
  rw [← Nat.shiftLeft_eq (tn / 2 ^ (j + 1))]
  generalize tn / 2 ^ j = x at hd ⊢
  rw [hd]
  by_cases hb : x % 2 = 1
  · rw [if_pos (by simpa using hb), xor_low hlt, hp]
    have : x = 2 * (x / 2) + 1 := by omega
    conv => lhs; rw [this]
    rw [Nat.add_mul, Nat.one_mul, Nat.mul_comm 2 (x / 2), Nat.mul_assoc, Nat.mul_comm 2]
  · rw [if_neg (by simpa using hb), xor_low (Nat.two_pow_pos _), hp]
    have : x = 2 * (x / 2) := by omega
    conv => lhs; rw [this]
    rw [Nat.mul_comm 2 (x / 2), Nat.mul_assoc, Nat.mul_comm 2, Nat.add_zero]
theorem pre_lt {tn i : Nat} (h : tn < 256) : preBits tn i < 256 := Nat.lt_of_le_of_lt (Nat.div_mul_le_self _ _) h

def Clean (pl : Nat) (l : List Nat) (i : Nat) : Prop := ∀ b, 8 * pl + i ≤ b → (l.getD (b / 5) 0).testBit (4 - b % 5) = false
theorem add_bit {x t : Nat} (h : x.testBit t = false) : x + 2 ^ t = x ^^^ 2 ^ t := by
  have h1 := xor_and_sum x (2 ^ t)
  have h2 : x &&& 2 ^ t = 0 := by
    apply Nat.eq_of_testBit_eq
    intro j
    rw [Nat.testBit_and, Nat.testBit_two_pow, Nat.zero_testBit]
    by_cases e : t = j
    · subst e; rw [h]; rfl
    · simp [e]
  omega
theorem set_xor {l : List Nat} {m j t : Nat} (hl : l.length = m) (hj : j < m) : l.set j (l.getD j 0 ^^^ t) = xorL l ((List.replicate m 0).set j t) := by
  apply List.ext_getElem
  · simp [xorL, hl]
  · intro i h1 h2
    simp only [xorL, List.getElem_zipWith, List.getElem_set, List.getElem_replicate]
    by_cases e : j = i
    · subst e
      rw [if_pos rfl, if_pos rfl, List.getD_eq_getElem?_getD, List.getElem?_eq_getElem (by omega)]; rfl
    · rw [if_neg e, if_neg e, Nat.xor_zero]
theorem xor_zeros {l : List Nat} {m : Nat} (hl : l.length = m) : xorL l (List.replicate m 0) = l := by
  apply List.ext_getElem
  · simp [xorL, hl]
  · intro i h1 h2
    simp [xorL]

theorem lay_bits {n pl tn : Nat} (h2 : 2 ≤ n) (h6 : n ≤ 6) (hp : pl < n) (ht : tn < 256) : ∀ i, i ≤ 8 → layAt 0 0 n pl tn i = 0 :: padC 8 5 (unitOf n pl (preBits tn i)) ∧ Clean pl (padC 8 5 (unitOf n pl (preBits tn i))) i
  | 0, _ => by
    have e : preBits tn 0 = 0 := by
      unfold preBits
      rw [Nat.div_eq_of_lt (by simpa using ht), Nat.zero_mul]
    rw [e, (one_facts n (by omega) h2 pl hp).1]
    refine ⟨rfl, fun b _ => ?_⟩
    have : (List.replicate ((8 * n + 4) / 5) 0).getD (b / 5) 0 = 0 := by
      rw [List.getD_eq_getElem?_getD, List.getElem?_replicate]; split <;> rfl
    rw [this]; simp
  | i + 1, hi => by
    obtain ⟨h1, h3⟩ := lay_bits h2 h6 hp ht i (by omega)
    have hun : ∀ t, (unitOf n pl t).length = n := fun t => by simp [unitOf]
    have hstep : preBits tn (i + 1) = _ := pre_succ (by omega)
    have hlen : (padC 8 5 (unitOf n pl (preBits tn i))).length = (8 * n + 4) / 5 := by
      obtain ⟨t, e1, e2, _⟩ := padC_num (unit_lt (n := n) (pl := pl) (pre_lt (i := i) ht))
      rw [hun] at e2; omega
    have hb : (if decide (tn / 2 ^ (7 - i) % 2 = 1) = true then 2 ^ (7 - i) else 0) < 256 := by
      split
      · exact Nat.lt_of_le_of_lt (Nat.pow_le_pow_right (by decide) (by omega : 7 - i ≤ 7)) (by decide)
      · decide
    rw [layAt_succ, h1, hstep, unit_xor, padC_xor (by rw [hun, hun]) (unit_lt (pre_lt ht)) (unit_lt hb)]
    generalize padC 8 5 (unitOf n pl (preBits tn i)) = l at h3 hlen ⊢
    unfold layStep
    by_cases hbit : decide (tn / 2 ^ (7 - i) % 2 = 1) = true
    · rw [if_pos hbit, if_pos hbit, (one_facts n (by omega) h2 pl hp).2 i (by omega)]
      have hix : (8 * pl + i) / 5 < (8 * n + 4) / 5 := by omega
      have hcl := h3 (8 * pl + i) (Nat.le_refl _)
      rw [Nat.add_comm 1, List.set_cons_succ, List.getD_cons_succ, add_bit hcl, set_xor hlen hix]
      refine ⟨rfl, fun b hb' => ?_⟩
      have hset := set_xor (l := l) (t := 2 ^ (4 - (8 * pl + i) % 5)) hlen hix
      unfold oneBit
      rw [← hset]
      have hcb := h3 b (by omega)
      rw [List.getD_eq_getElem?_getD, List.getElem?_set]
      by_cases e : (8 * pl + i) / 5 = b / 5
      · rw [if_pos e]
        rw [← e] at hcb
        by_cases hlt : (8 * pl + i) / 5 < l.length
        · rw [if_pos hlt]
          show ((l.getD ((8 * pl + i) / 5) 0) ^^^ 2 ^ (4 - (8 * pl + i) % 5)).testBit _ = false
          rw [Nat.testBit_xor, hcb, Nat.testBit_two_pow]
          have : ¬ 4 - (8 * pl + i) % 5 = 4 - b % 5 := by omega
          simp [this]
        · rw [if_neg hlt]; simp
      · rw [if_neg e, ← List.getD_eq_getElem?_getD]
        exact hcb
    · rw [if_neg hbit, if_neg hbit, (one_facts n (by omega) h2 pl hp).1, xor_zeros hlen]
      exact ⟨rfl, fun b hb' => h3 b (by omega)⟩
theorem bits_all {n pl tn : Nat} (h2 : 2 ≤ n) (h6 : n ≤ 6) (hp : pl < n) (ht : tn < 256) : padC 8 5 (unitOf n pl tn) = bitsOf n pl tn := by
  have e : preBits tn 8 = tn := by simp [preBits]
  have := (lay_bits h2 h6 hp ht 8 (Nat.le_refl _)).1
  rw [e] at this
  unfold bitsOf
  rw [this]; rfl
end Mine

namespace Mine

theorem layStep_cons (pl tn a : Nat) (l : List Nat) (k : Nat) (b : Nat) : ∃ l', layStep pl tn (a :: l) k = a :: l' ∧ layStep pl tn (b :: l) k = b :: l' := by
  unfold layStep
  by_cases h : decide (tn / 2 ^ (7 - k) % 2 = 1) = true
  · rw [if_pos h, if_pos h, Nat.add_comm 1]
    exact ⟨_, by rw [List.set_cons_succ], by rw [List.set_cons_succ]; simp⟩
  · rw [if_neg h, if_neg h]
    exact ⟨l, rfl, rfl⟩
theorem layAt_cons (v o len pl tn : Nat) : ∀ i, ∃ l', layAt v o len pl tn i = (v ^^^ o) :: l' ∧ layAt 0 0 len pl tn i = 0 :: l'
  | 0 => ⟨List.replicate ((8 * len + 4) / 5) 0, by simp [layAt, layStart], by simp [layAt, layStart]⟩
  | i + 1 => by
    obtain ⟨l, h1, h2⟩ := layAt_cons v o len pl tn i
    rw [layAt_succ, layAt_succ, h1, h2]
    exact layStep_cons pl tn _ l i _
theorem layAt_bits (v o len pl tn : Nat) : layAt v o len pl tn 8 = (v ^^^ o) :: bitsOf len pl tn := by
  obtain ⟨l, h1, h2⟩ := layAt_cons v o len pl tn 8
  unfold bitsOf
  rw [h1, h2]; rfl

theorem xorL_length {a b : List Nat} (h : a.length = b.length) : (xorL a b).length = a.length := by simp [xorL, h]
theorem turned_xor (p : List Nat) (pl tn : Nat) : turnedOf p pl tn = xorL p (unitOf p.length pl tn) := by
  apply List.ext_getElem
  · simp [turnedOf, xorL, unitOf]
  · intro i h1 h2
    simp only [turnedOf, unitOf, xorL, List.getElem_map, List.getElem_range, List.getElem_zipWith]
    have : i < p.length := by simpa [turnedOf] using h1
    rw [List.getD_eq_getElem?_getD, List.getElem?_eq_getElem this]; rfl
theorem made_xor (h : List Nat) (v : Nat) (p laid : List Nat) (hl : (numsOf h v p).length = laid.length) : madeOf h v p laid = h ++ [49] ++ (xorL (numsOf h v p) laid).map charN := by
  unfold madeOf
  congr 1
  apply List.ext_getElem
  · simp [xorL, hl]
  · intro i h1 h2
    have hi : i < laid.length := by simpa using h1
    simp only [xorL, List.getElem_map, List.getElem_range, List.getElem_zipWith]
    rw [List.getD_eq_getElem?_getD, List.getD_eq_getElem?_getD, List.getElem?_eq_getElem hi, List.getElem?_eq_getElem (by omega)]; rfl
theorem zip_mem {a b : List Nat} {d : Nat} (hd : d ∈ xorL a b) : ∃ x ∈ a, ∃ y ∈ b, d = x ^^^ y := by
  induction a generalizing b with
  | nil => simp [xorL] at hd
  | cons x a ih =>
    cases b with
    | nil => simp [xorL] at hd
    | cons y b =>
      simp only [xorL, List.zipWith_cons_cons, List.mem_cons] at hd
      rcases hd with rfl | hd
      · exact ⟨x, List.mem_cons_self .., y, List.mem_cons_self .., rfl⟩
      · obtain ⟨x', hx, y', hy, e⟩ := ih (b := b) hd
        exact ⟨x', List.mem_cons_of_mem _ hx, y', List.mem_cons_of_mem _ hy, e⟩
theorem padC_len {p : List Nat} (hp : ∀ v ∈ p, v < 256) : (padC 8 5 p).length = (8 * p.length + 4) / 5 := by
  obtain ⟨t, h1, h2, _⟩ := padC_num hp
  omega
theorem six_ok_lt {s : Six} (h : s.ok) : ∀ d ∈ s.list, d < 32 := fun d hd => by
  obtain ⟨h1, h2, h3, h4, h5, h6⟩ := h
  simp only [Six.list, List.mem_cons, List.not_mem_nil, or_false] at hd
  rcases hd with rfl | rfl | rfl | rfl | rfl | rfl <;> assumption

theorem facts1 {h : List Nat} {v o : Nat} {p : List Nat} {pl tn : Nat} (hh : GoodH h) (h2 : h.length ≤ 2) (hv : Ver v) (ho : o < 32) (hp2 : 2 ≤ p.length) (hp6 : p.length ≤ 6) (hp8 : ∀ d ∈ p, d < 256) (hpl : pl < p.length) (ht : tn < 256) :
    (∀ d ∈ layAt v o p.length pl tn 8, d < 32) ∧ Facts1 h v o p pl tn (laidOf v o p.length pl tn) := by
  have x5 : ∀ {a b : Nat}, a < 32 → b < 32 → a ^^^ b < 32 := fun {a b} ha hb => Nat.xor_lt_two_pow (n := 5) ha hb
  have hP : Prog p := ⟨hp2, by omega, hp8⟩
  have hb : bitsOf p.length pl tn = padC 8 5 (unitOf p.length pl tn) := (bits_all hp2 hp6 hpl ht).symm
  have hlay := layAt_bits v o p.length pl tn
  have hul := unit_lt (n := p.length) (pl := pl) ht
  have hun : (unitOf p.length pl tn).length = p.length := by simp [unitOf]
  have hlt8 : ∀ d ∈ layAt v o p.length pl tn 8, d < 32 := fun d hd => by
    rw [hlay, hb] at hd
    rcases List.mem_cons.mp hd with rfl | hd
    · exact x5 (by have := hv.2; omega) ho
    · exact padC_lt _ d hd
  have hrun := run_zero hlt8
  have hokr : (runS zeroSix (layAt v o p.length pl tn 8 ++ [0, 0, 0, 0, 0, 0])).ok := (foldN_pack _ zeroSix zeroSix_ok fun d hd => (List.mem_append.mp hd).elim (hlt8 d) fun h => by simp at h; rw [h]; decide).2
  have elaid : laidOf v o p.length pl tn = layAt v o p.length pl tn 8 ++ (runS zeroSix (layAt v o p.length pl tn 8 ++ [0, 0, 0, 0, 0, 0])).list := rfl
  rw [← elaid] at hrun
  have hlen : (laidOf v o p.length pl tn).length = 1 + (padC 8 5 p).length + 6 := by
    rw [elaid, List.length_append, layAt_length, padC_len hp8]; simp [Six.list]
  have hll : ∀ d ∈ laidOf v o p.length pl tn, d < 32 := fun d hd => by
    rw [elaid] at hd
    exact (List.mem_append.mp hd).elim (hlt8 d) (six_ok_lt hokr d)
  have hnl := numsOf_length h v p
  have hnlt := numsOf_lt (h := h) (p := p) hv
  -- the turned word
  have hD : ∀ d ∈ xorL (numsOf h v p) (laidOf v o p.length pl tn), d < 32 := fun d hd => by
    obtain ⟨x, hx, y, hy, rfl⟩ := zip_mem hd
    exact x5 (hnlt x hx) (hll y hy)
  have hsplit : xorL (numsOf h v p) (laidOf v o p.length pl tn) = (o :: padC 8 5 (turnedOf p pl tn)) ++ xorL (createN h (v :: padC 8 5 p)) (runS zeroSix (layAt v o p.length pl tn 8 ++ [0, 0, 0, 0, 0, 0])).list := by
    have l1 : (padC 8 5 p).length = (padC 8 5 (unitOf p.length pl tn)).length := by rw [padC_len hp8, padC_len hul, hun]
    rw [elaid]
    unfold numsOf xorL
    rw [List.zipWith_append (by rw [layAt_length, List.length_cons, padC_len hp8]; omega)]
    congr 1
    rw [hlay, hb, List.zipWith_cons_cons, turned_xor]
    have e1 : v ^^^ (v ^^^ o) = o := by rw [← Nat.xor_assoc, Nat.xor_self, Nat.zero_xor]
    rw [e1, padC_xor hun.symm hp8 hul]
  have hcl : (xorL (createN h (v :: padC 8 5 p)) (runS zeroSix (layAt v o p.length pl tn 8 ++ [0, 0, 0, 0, 0, 0])).list).length = 6 := by
    rw [xorL_length (by rw [createN_length]; rfl), createN_length]
  have hver : polyN (expandN h ++ xorL (numsOf h v p) (laidOf v o p.length pl tn)) = 1 := by
    have hok := verify_ok (hrp := h) (data := v :: padC 8 5 p) (fun c hc => by have := hh.2.2 c hc; unfold fitC at this; omega) (ver_data hv)
    have := foldN_xor (numsOf h v p) (laidOf v o p.length pl tn) (polyN (expandN h)) 0 (by rw [hnl, hlen])
    rw [Nat.xor_zero, hrun, Nat.xor_zero] at this
    rw [polyN_append, this, ← polyN_append]
    exact hok
  have hdec := decB_plain hh hD (by rw [xorL_length (by rw [hnl, hlen]), hnl]; omega) hver
  have htake : (xorL (numsOf h v p) (laidOf v o p.length pl tn)).take ((xorL (numsOf h v p) (laidOf v o p.length pl tn)).length - 6) = o :: padC 8 5 (turnedOf p pl tn) := by
    rw [hsplit, List.length_append, hcl, Nat.add_sub_cancel, List.take_append_of_le_length (Nat.le_refl _), List.take_of_length_le (Nat.le_refl _)]
  rw [htake] at hdec
  have htl : (turnedOf p pl tn).length = p.length := by simp [turnedOf]
  have ht8 : ∀ d ∈ turnedOf p pl tn, d < 256 := fun d hd => by
    rw [turned_xor] at hd
    obtain ⟨x, hx, y, hy, rfl⟩ := zip_mem hd
    exact Nat.xor_lt_two_pow (n := 8) (hp8 x hx) (hul y hy)
  have hst := strict_pad ht8
  refine ⟨hlt8, hh, h2, hv, hP, hp6, hpl, hlen, hll, ?_⟩
  rw [made_xor _ _ _ _ (by rw [hnl, hlen])]
  unfold decN
  rw [hdec]
  show (if (h != h) = true then none else match strictC 5 8 (padC 8 5 (turnedOf p pl tn)) with
    | none => none
    | some p => if (decide (p.length < 2) || (decide (40 < p.length) || false)) = true then none else if decide (16 < o) = true then none else
      if (decide (o = 0) && ((!decide (p.length = 20)) && ((!decide (p.length = 32)) && true))) = true then none else some (o, p)) = _
  rw [hst]
  have e0 : (h != h) = false := by simp
  have e1 : (decide ((turnedOf p pl tn).length < 2) || (decide (40 < (turnedOf p pl tn).length) || false)) = false := by rw [htl]; simp; omega
  have e2 : (!decide ((turnedOf p pl tn).length = 20)) = true := by rw [htl]; simp; omega
  have e3 : (!decide ((turnedOf p pl tn).length = 32)) = true := by rw [htl]; simp; omega
  rw [e0]
  simp only [Bool.false_eq_true, if_false, e1, e2, e3, Bool.and_true, decide_eq_true_eq, Bool.and_eq_true]
  by_cases c1 : 16 < o
  · rw [if_pos c1, if_neg (by omega)]
  · rw [if_neg c1]
    by_cases c2 : o = 0
    · rw [if_pos c2, if_neg (by omega)]
    · rw [if_neg c2, if_pos (by omega)]

theorem law1_facts (script : List Int) : (∀ d ∈ layAt (ver1 script) (oth1 script) (prog1 script).length (place1 script) (turn1 script) 8, d < 32) ∧
    Facts1 (name1 script) (ver1 script) (oth1 script) (prog1 script) (place1 script) (turn1 script) (laidOf (ver1 script) (oth1 script) (prog1 script).length (place1 script) (turn1 script)) := by
  obtain ⟨d1, d2, d3⟩ := digitsN_of (base := 68) (most := 2) (by decide) (by decide) (atN script 0 2759)
  obtain ⟨p1, p2, p3⟩ := prog1_of script
  have hl : (name1 script).length = (digitsN 68 2 (atN script 0 2759)).length := by simp [name1]
  refine facts1 ⟨by omega, by omega, fun c hc => ?_⟩ (by omega) ?_ ?_ p1 p2 p3 ?_ ?_
  · obtain ⟨k, hk, rfl⟩ := List.mem_map.mp hc
    exact nameC_fit (d3 k hk)
  · have : ((atN script 1 0).fmod 16).toNat < 16 := modI_lt (b := 16) (by decide)
    unfold Ver ver1; omega
  · exact modI_lt (b := 32) (by decide)
  · exact modI_lt (by omega)
  · exact modI_lt (b := 256) (by decide)
end Mine

namespace Mine

theorem wellAll_ints {P : Params} {h : Heap} : ∀ {vs : List Value} {l : List Int}, WellAll P h vs (ofPys (l.map PyData.int)) → RepAll noW h vs (l.map PV.int)
  | vs, [], w => by cases w; exact .nil
  | vs, i :: l, w => by
    cases w with | cons a b =>
    cases a with | int _ t =>
    exact .cons (.int i t) (wellAll_ints b)
theorem well_ints {P : Params} {h : Heap} {v : Value} {l : List Int} (w : Well P h v (ofPy (.list (l.map PyData.int)))) : Rep noW h v (intl l) := by
  cases w with | list g r =>
  exact .list id g (by simpa using wellAll_ints r)

theorem caller_ok {n : Nat} (h : n ≤ 10) : AOK n callerA := ⟨rfl, by
    have : callerA.depth + 10 < recursionLimit := by decide +kernel
    omega, by
    have : callerA.units + 40 * 10 + 100 < cLine := by decide +kernel
    omega⟩

/-- all the facts of a program's top, as the walks want them -/
theorem base_of {p prog : Program} {w : World} {K : Frag} {loose : List Str} {mean : ExcName → Option Value} {mg mb : Str → Option Value} {h : Heap} {plain : List Str} (KX : K.In h) (T : Top p loose mean mg mb h)
    (hrec : ∀ f ∈ plain, ∃ d, (recsOf p).find? (fun e => e.name == f) = some d ∧ d.params = (theDef pw f).1 ∧ d.body = (theDef pw f).2.1 ∧ d.scope = (theDef pw f).2.2)
    (hdec : ∃ d, (recsOf p).find? (fun e => e.name == ("bech32_decode" : Str)) = some d ∧ d.params = (theDef pw "bech32_decode").1 ∧ d.body = (theDef pw "bech32_decode").2.1 ∧ d.scope = (theDef pw "bech32_decode").2.2)
    (hconv : ∃ a pm c doc T tn o oc vs t, nsIn K mainGlobals "convertbits" = some (some (.ref a)) ∧ K.lookup a = some o ∧ o.data = .func { fdOf "convertbits" pm (.ref c) doc with defaults := .ref T } ∧ K.lookup T = some (seqObj "tuple" #[.bool true] tn) ∧
      K.lookup c = some oc ∧ oc.data = .fields vs ∧ vs[1]? = some (.str "convertbits" t))
    (hch : ∃ t, nsIn K mainGlobals "CHARSET" = some (some (.str "qpzry9x8gf2tvdw0s3jn54khce6mua7l" t)))
    (hnob : ∀ x ∈ (["ord", "range", "list", "len", "any", "all", "chr", "abs"] : List Str), nsIn K mainGlobals x = some none) :
    ∃ c P, Base ⟨prog, w, h, mg, mb, c, P⟩ plain := by
  obtain ⟨d, hd, hd1, hd2, hd3⟩ := hdec
  have hdn : d.name = ("bech32_decode" : Str) := by simpa using List.find?_some hd
  obtain ⟨a, o, pm, code, doc, h1, h2, h3, h4⟩ := T.fn d (List.mem_of_find?_eq_some hd)
  obtain ⟨c, P, e, hB⟩ := based_of_top T hd (by rw [← hdn]; exact h1) h2 h3
  have e : code = .ref c := e
  subst e
  obtain ⟨bm, ob, M⟩ := bmod_of_top T
  refine ⟨c, P, ⟨T.g, T.b, T.nolimit, hB, T.builtins⟩, ⟨bm, ob, M⟩, fun f hf => ?_, ?_, ?_, ?_, fun x hx => mg_none_of KX T.g (hnob x hx)⟩
  · obtain ⟨d', hm, r2, r3, r4⟩ := hrec f hf
    have r1 : d'.name = f := by simpa using List.find?_some hm
    obtain ⟨a', o', pm', code', doc', g1, g2, g3, g4⟩ := T.fn d' (List.mem_of_find?_eq_some hm)
    rw [r1, r2, r3, r4] at g3
    rw [r1] at g1 g4
    exact ⟨a', pm', code', doc', g1, ⟨o', g2, g3⟩, g4⟩
  · rw [hdn, hd1, hd2, hd3] at h3
    rw [hdn] at h1 h4
    exact ⟨a, pm, doc, h1, ⟨o, h2, h3⟩, h4⟩
  · obtain ⟨a, pm, c', doc, T', tn, o, oc, vs, t, k1, k2, k3, k4, k5, k6, k7⟩ := hconv
    exact ⟨a, pm, .ref c', doc, T', tn, ⟨mg_of KX T.g k1, ⟨o, KX _ _ k2, k3⟩, ⟨c', oc, vs, t, rfl, KX _ _ k5, k6, k7⟩⟩, KX _ _ k4⟩
  · obtain ⟨t, k⟩ := hch
    exact ⟨t, mg_of KX T.g k⟩

/-- a law that gives True, at the end -/
theorem good_of {c : ClaimW} {cl : Str → Option Addr} {mean : ExcName → Option Value} {args : List WData} {s₁ s' : Shared} {cx : Cx} (hc : cx.h₁ = s₁.heap) (K : SOK cx false s₁) (r : Rel cx false s₁ s') (hrs : ∀ cls, c.raises args cls = false) (hpost : c.post args (.bool true) args = true) :
    GoodWG c cl mean args s₁ (.ok (.ret (.bool true))) s' := by
  refine ⟨.inl ⟨_, .bool true, [], rfl, hrs, .bool true, hpost, fun _ => ⟨.nil, fun a h => by cases h⟩⟩, hc ▸ (r.gi K.gi).old, r.os, r.bare (K.bare rfl)⟩
end Mine

theorem PySem.Challenge.cw_oo0009_01_holds : PySem.Challenge.rw_oo0009_01.Holds := by
  w_on
  o_law
  k_head
  case hw => w_witness2
  k_fill
  intro w s₀ s₁ mg mb G Y fa o pm cd doc dV kV ho hd hcd hD hmg hg args vals as hpre hlay hrd hwl hlo
  have KX := kIn_of Y
  refine Ground.open G ?_
  intro T B D TE TW
  wrow_args hpre hlay hrd hwl hlo
  rename_i script _ _ _ _ _ _ _ la _ _ _ _ hwell _ _ _ hlen _
  obtain ⟨c, P, BB⟩ := Mine.base_of (prog := PySem.Challenge.rw_oo0009_01.row.prog) (w := w) (plain := Mine.plain1) KX T
    (fun f hf => by
      simp only [Mine.plain1, List.mem_cons, List.not_mem_nil, or_false] at hf
      rcases hf with rfl | rfl | rfl | rfl | rfl | rfl | rfl | rfl | rfl | rfl | rfl | rfl <;> exact ⟨_, rfl, rfl, rfl, rfl⟩)
    ⟨_, rfl, rfl, rfl, rfl⟩
    ⟨_, _, _, _, _, _, _, _, _, _, rfl, rfl, rfl, rfl, rfl, rfl, rfl⟩
    ⟨_, rfl⟩ (fun x hx => by
      simp only [List.mem_cons, List.not_mem_nil, or_false] at hx
      rcases hx with rfl | rfl | rfl | rfl | rfl | rfl | rfl | rfl <;> rfl)
  obtain ⟨a', fd, H, hop⟩ := Mine.Fn_law1 (n := 0) Mine.codec BB ⟨_, mg_of KX T.g rfl⟩ script (by omega) (Mine.law1_facts script).1 (Mine.law1_facts script).2
  have hfa : a' = fa := by
    have := H.mg.symm.trans hmg
    cases this
    rfl
  subst hfa
  have KK : Mine.SOK ⟨PySem.Challenge.rw_oo0009_01.row.prog, w, s₁.heap, mg, mb, c, P⟩ false s₁ := ⟨⟨s₁.heap, #[], BB.ok.base, fun _ _ e => e⟩, fun _ => .of_eq hg⟩
  refine wpAny_mono (hop callerA s₁ Mine.noW [.ref la] _ (Mine.caller_ok (by decide)) ⟨KK, fun _ h => h.elim⟩ (.cons (Mine.well_ints hwell) .nil)) (fun v s' h => ?_) (fun _ _ e => e)
  obtain ⟨r, k⟩ := h
  cases k
  exact Mine.good_of rfl KK r (fun cls => by rfl) (postW_of (X := true) (by first | rfl | decide +kernel) (by first | rfl | with_unfolding_all rfl | kernel_rfl) rfl)
