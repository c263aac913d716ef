import PyProof.Rows.All
import Wide.All
import OpenK.AllK
import Wide.FinOn
import OpenK.KRaise
import PySem.Challenge.RW_oy0006_01
open PySem PySem.W PyProof.Rows
set_option Elab.async false
namespace Mine

/-! ## Heaps that grow; a dict's slots may turn (a frame's) -/
/-- `o` became `o'` at most by its slots, and that only if it is a dict -/
def Like (o o' : Obj) : Prop := ∃ sl, o' = { o with slots := sl } ∧ ((∀ es n, o.data ≠ .dict es n) → sl = o.slots)
theorem Like.refl (o : Obj) : Like o o := ⟨o.slots, rfl, fun _ => rfl⟩
theorem Like.trans {o₁ o₂ o₃ : Obj} (x : Like o₁ o₂) (y : Like o₂ o₃) : Like o₁ o₃ := by
  obtain ⟨sl, rfl, h⟩ := x; obtain ⟨sl', rfl, h'⟩ := y; exact ⟨sl', rfl, fun q => (h' q).trans (h q)⟩
theorem Like.same {o o' : Obj} (x : Like o o') (h : ∀ es n, o.data ≠ .dict es n) : o' = o := by
  obtain ⟨sl, rfl, q⟩ := x; rw [q h]
def Kept (h h' : Heap) : Prop := ∀ b o, h.get? b = some o → ∃ o', h'.get? b = some o' ∧ Like o o'
theorem Kept.refl (h : Heap) : Kept h h := fun _ o e => ⟨o, e, .refl o⟩
theorem Kept.trans {h₁ h₂ h₃ : Heap} (x : Kept h₁ h₂) (y : Kept h₂ h₃) : Kept h₁ h₃ := fun b o e =>
  let ⟨_, e₁, l₁⟩ := x b o e; let ⟨o₂, e₂, l₂⟩ := y b _ e₁; ⟨o₂, e₂, l₁.trans l₂⟩
theorem Kept.of_keeps {h h' : Heap} (k : ∀ b o, h.get? b = some o → h'.get? b = some o) : Kept h h' := fun b o e => ⟨o, k b o e, .refl o⟩
theorem Kept.push (h : Heap) (o : Obj) : Kept h (h.push o) := .of_keeps fun _ _ e => Heap.get?_push_of_some o e
theorem Kept.isNone {h h' : Heap} (k : Kept h h') {b : Addr} (e : h'.get? b = none) : h.get? b = none := by
  cases q : h.get? b with
  | none => rfl
  | some o => obtain ⟨o', q', _⟩ := k b o q; rw [e] at q'; cases q'
/-- an object that is not of `h` turns -/
theorem Kept.extBut {h h₁ h₂ : Heap} {a : Addr} (k : Kept h h₁) (ha : h.get? a = none) (x : Heap.ExtBut a h₁ h₂) : Kept h h₂ := fun b o e => by
  obtain ⟨o', e₁, l⟩ := k b o e
  exact ⟨o', x b _ (fun q => by rw [q, ha] at e; cases e) e₁, l⟩
theorem Kept.sameBut {h h₁ h₂ : Heap} {a : Addr} (k : Kept h h₁) (ha : h.get? a = none) (x : Heap.SameBut a h₁ h₂) : Kept h h₂ := k.extBut ha x.extBut
theorem Kept.exact {h h' : Heap} (k : Kept h h') {b : Addr} {o : Obj} (e : h.get? b = some o) (hd : ∀ es n, o.data ≠ .dict es n) : h'.get? b = some o := by
  obtain ⟨o', e', l⟩ := k b o e; rw [e', l.same hd]
/-- all but the objects of `X` -/
def KeptBut (X : List Addr) (h h' : Heap) : Prop := ∀ b o, b ∉ X → h.get? b = some o → ∃ o', h'.get? b = some o' ∧ Like o o'
theorem Kept.but {X : List Addr} {h h' : Heap} (k : Kept h h') : KeptBut X h h' := fun b o _ e => k b o e
theorem KeptBut.trans {X : List Addr} {h₁ h₂ h₃ : Heap} (x : KeptBut X h₁ h₂) (y : KeptBut X h₂ h₃) : KeptBut X h₁ h₃ := fun b o n e =>
  let ⟨_, e₁, l₁⟩ := x b o n e; let ⟨o₂, e₂, l₂⟩ := y b _ n e₁; ⟨o₂, e₂, l₁.trans l₂⟩
theorem KeptBut.of_extBut {X : List Addr} {h h' : Heap} {a : Addr} (ha : a ∈ X) (x : Heap.ExtBut a h h') : KeptBut X h h' := fun b o n e => ⟨o, x b o (fun q => n (q ▸ ha)) e, .refl o⟩
theorem KeptBut.exact {X : List Addr} {h h' : Heap} (k : KeptBut X h h') {b : Addr} {o : Obj} (n : b ∉ X) (e : h.get? b = some o) (hd : ∀ es n, o.data ≠ .dict es n) : h'.get? b = some o := by
  obtain ⟨o', e', l⟩ := k b o n e; rw [e', l.same hd]
theorem Kept.thenBut {X : List Addr} {h h₁ h₂ : Heap} (k : Kept h h₁) (x : KeptBut X h₁ h₂) (n : ∀ b ∈ X, h.get? b = none) : Kept h h₂ := fun b o e => by
  obtain ⟨o', e₁, l⟩ := k b o e
  obtain ⟨o'', e₂, l'⟩ := x b o' (fun q => by rw [n b q] at e; cases e) e₁
  exact ⟨o'', e₂, l.trans l'⟩

theorem none_size (h : Heap) : h.get? h.objs.size = none := Heap.get?_none_of_le (Nat.le_refl _)

/-! ## facts that stay -/
theorem k_list {h h' : Heap} {a : Addr} {items} (k : Kept h h') (x : h.IsList a items) : h'.IsList a items := by
  obtain ⟨o, ho, hc, n, hd⟩ := x; exact ⟨o, k.exact ho (fun _ _ q => by rw [hd] at q; cases q), hc, n, hd⟩
theorem k_tuple {h h' : Heap} {a : Addr} {items} (k : Kept h h') (x : h.IsTuple a items) : h'.IsTuple a items := by
  obtain ⟨o, ho, hc, n, hd⟩ := x; exact ⟨o, k.exact ho (fun _ _ q => by rw [hd] at q; cases q), hc, n, hd⟩
theorem k_iter {h h' : Heap} {a l : Addr} {i} (k : Kept h h') (x : h.IsListIter a l i) : h'.IsListIter a l i := by
  obtain ⟨o, ho, hc, hd⟩ := x; exact ⟨o, k.exact ho (fun _ _ q => by rw [hd] at q; cases q), hc, hd⟩
theorem k_ns {h h' : Heap} {a : Addr} {m} (k : Kept h h') (x : h.Ns a m) : h'.Ns a m := by
  obtain ⟨o, es, ep, ho, hd, r⟩ := x; obtain ⟨_, e, sl, rfl, _⟩ := k a o ho; exact ⟨_, es, ep, e, hd, r⟩
theorem k_cell {h h' : Heap} {a : Addr} {v} (k : Kept h h') (x : h.IsCell a v) : h'.IsCell a v := by
  obtain ⟨o, ho, hd⟩ := x; exact ⟨o, k.exact ho (fun _ _ q => by rw [hd] at q; cases q), hd⟩
mutual
theorem k_reads {h h' : Heap} (k : Kept h h') : ∀ {v d as}, Reads h v d as → Reads h' v d as
  | _, _, _, .none => .none
  | _, _, _, .bool b => .bool b
  | _, _, _, .int i t => .int i t
  | _, _, _, .str x t => .str x t
  | _, _, _, .list ho hc hd r => by obtain ⟨_, e, sl, rfl, _⟩ := k _ _ ho; exact .list e hc hd (k_readsAll k r)
  | _, _, _, .tuple ho hc hd r => by obtain ⟨_, e, sl, rfl, _⟩ := k _ _ ho; exact .tuple e hc hd (k_readsAll k r)
  | _, _, _, .dict ho hc hd r r' => by obtain ⟨_, e, sl, rfl, _⟩ := k _ _ ho; exact .dict e hc hd (k_readsAll k r) (k_readsAll k r')
theorem k_readsAll {h h' : Heap} (k : Kept h h') : ∀ {vs ds as}, ReadsAll h vs ds as → ReadsAll h' vs ds as
  | _, _, _, .nil => .nil
  | _, _, _, .cons r rs => .cons (k_reads k r) (k_readsAll k rs)
end

/-! ## the ground: what stood before the call -/
/-- the stack, and room on it -/
structure Rdy (A : Around) (G : Heap) (l : List Env) (h : Heap) (d u : Nat) : Prop where
  below : Below A G l h
  handled : A.handled = none
  guards : A.guards = some []
  depth : A.depth + d < 1000
  units : A.units + u < 9900
  dicts : ∀ L ∈ l.filterMap (·.frame), ∃ o es n, h.get? L = some o ∧ o.data = .dict es n
theorem Rdy.kept {A : Around} {G h h' : Heap} {l : List Env} {d u : Nat} (x : Rdy A G l h d u) (k : Kept h h') (g : G.StaysIn h') : Rdy A G l h' d u :=
  ⟨⟨x.below.stack, g, x.below.frames.of_keeps fun b o e _ => let ⟨_, q, _, e', _⟩ := k b o e; ⟨_, q, e' ▸ rfl⟩⟩, x.handled, x.guards, x.depth, x.units, fun L hL => let ⟨o, es, n, e, hd⟩ := x.dicts L hL; let ⟨_, q, _, e', _⟩ := k L o e; ⟨_, es, n, q, e' ▸ hd⟩⟩
theorem Rdy.less {A : Around} {G h : Heap} {l : List Env} {d u d' u' : Nat} (x : Rdy A G l h d u) (hd : d' ≤ d) (hu : u' ≤ u) : Rdy A G l h d' u' :=
  ⟨x.below, x.handled, x.guards, by have := x.depth; omega, by have := x.units; omega, x.dicts⟩

/-- a state that came out of `s`: the ground stands, what `s` held is kept -/
def Step (G : Heap) (s s' : Shared) : Prop := ∃ h' tk, s' = { s with heap := h', toks := tk } ∧ G.StaysIn h' ∧ Kept s.heap h'
theorem Step.refl {G : Heap} {s : Shared} (g : G.StaysIn s.heap) : Step G s s := ⟨s.heap, s.toks, rfl, g, .refl _⟩
theorem Step.trans {G : Heap} {s₁ s₂ s₃ : Shared} (x : Step G s₁ s₂) (y : Step G s₂ s₃) : Step G s₁ s₃ := by
  obtain ⟨h, t, rfl, g, k⟩ := x; obtain ⟨h', t', rfl, g', k'⟩ := y; exact ⟨h', t', rfl, g', k.trans k'⟩
theorem Step.kept {G : Heap} {s s' : Shared} (x : Step G s s') : Kept s.heap s'.heap := by obtain ⟨h, t, rfl, g, k⟩ := x; exact k
theorem Step.ground {G : Heap} {s s' : Shared} (x : Step G s s') : G.StaysIn s'.heap := by obtain ⟨h, t, rfl, g, k⟩ := x; exact g
theorem Step.gens {G : Heap} {s s' : Shared} (x : Step G s s') : s'.gens = s.gens := by obtain ⟨h, t, rfl, g, k⟩ := x; rfl
theorem Step.os {G : Heap} {s s' : Shared} (x : Step G s s') : s'.os = s.os := by obtain ⟨h, t, rfl, g, k⟩ := x; rfl
theorem Step.of {G : Heap} {s : Shared} {h' : Heap} {tk : Nat} (g : G.StaysIn h') (k : Kept s.heap h') : Step G s { s with heap := h', toks := tk } := ⟨h', tk, rfl, g, k⟩
theorem Step.tok {G : Heap} {s : Shared} {tk : Nat} (g : G.StaysIn s.heap) : Step G s { s with toks := tk } := ⟨s.heap, tk, rfl, g, .refl _⟩
theorem Step.push {G : Heap} {s : Shared} {o : Obj} (g : G.StaysIn s.heap) : Step G s { s with heap := s.heap.push o } :=
  ⟨_, _, rfl, fun b o' e => Heap.get?_push_of_some _ (g b o' e), .push _ _⟩
theorem Step.set {G : Heap} {s s' : Shared} {h' : Heap} {tk : Nat} (x : Step G s s') (g : G.StaysIn h') (k : Kept s.heap h') : Step G s { s' with heap := h', toks := tk } := by
  obtain ⟨h, t, rfl, _, _⟩ := x; exact ⟨h', tk, rfl, g, k⟩
theorem stays_push {G h : Heap} {o : Obj} (g : G.StaysIn h) : G.StaysIn (h.push o) := fun b o' e => Heap.get?_push_of_some _ (g b o' e)
theorem stays_extBut {G h h' : Heap} {a : Addr} (g : G.StaysIn h) (ha : G.get? a = none) (x : Heap.ExtBut a h h') : G.StaysIn h' :=
  fun b o e => x b o (fun q => by rw [q, ha] at e; cases e) (g b o e)
theorem stays_none {G h : Heap} (g : G.StaysIn h) {a : Addr} (e : h.get? a = none) : G.get? a = none := by
  cases q : G.get? a with
  | none => rfl
  | some o => rw [g a o q] at e; cases e
theorem stays_keeps {G h h' : Heap} (g : G.StaysIn h) (k : ∀ b o, h.get? b = some o → h'.get? b = some o) : G.StaysIn h' := fun b o e => k b o (g b o e)

/-! ## the ten things -/
def datum : Nat → PyData
  | 0 => .int 1
  | 1 => .bool true
  | 2 => .list [.int 1]
  | 3 => .list [.bool true]
  | 4 => .str "a"
  | 5 => .int 0
  | 6 => .bool false
  | 7 => .dict [(.str "k", .int 1)]
  | 8 => .dict [(.str "k", .bool true)]
  | _ => .tuple [.int 1, .int 2]
def kind : Nat → Nat
  | 0 => 0 | 1 => 0 | 2 => 1 | 3 => 1 | 4 => 2 | 5 => 3 | 6 => 3 | 7 => 4 | 8 => 4 | _ => 5

theorem all_ten {P : Nat → Prop} (h : ∀ i, i < 10 → P i) (h' : ∀ i, 10 ≤ i → P i) : ∀ i, P i := fun i => if q : i < 10 then h i q else h' i (by omega)
theorem datum_ge {i : Nat} (h : 9 ≤ i) : datum i = datum 9 := by
  match i, h with
  | i + 9, _ => rfl
theorem kind_ge {i : Nat} (h : 9 ≤ i) : kind i = kind 9 := by
  match i, h with
  | i + 9, _ => rfl
theorem datum_min (i : Nat) : datum i = datum (min i 9) := by
  by_cases h : 9 ≤ i
  · rw [datum_ge h, Nat.min_eq_right h]
  · rw [Nat.min_eq_left (by omega)]
theorem kind_min (i : Nat) : kind i = kind (min i 9) := by
  by_cases h : 9 ≤ i
  · rw [kind_ge h, Nat.min_eq_right h]
  · rw [Nat.min_eq_left (by omega)]
def flat (i : Nat) : Bool := kind i != 4
theorem eqv_tab : ∀ i, i < 10 → ∀ j, j < 10 → flat i = true → PyData.eqv (datum i) (datum j) = (kind i == kind j) := by decide +kernel
theorem flat_min (i : Nat) : flat i = flat (min i 9) := by unfold flat; rw [kind_min]
theorem eqv_datum {i j : Nat} (hi : flat i = true) : PyData.eqv (datum i) (datum j) = (kind i == kind j) := by
  rw [flat_min] at hi
  rw [datum_min i, datum_min j, kind_min i, kind_min j]
  exact eqv_tab _ (by omega) _ (by omega) hi
theorem canLay_tab : ∀ i, i < 10 → flat i = true → (datum i).canLay0 = true := by
  intro i hi
  match i, hi with
  | 4, _ => intro _; simp only [datum, PyData.canLay0]; decide +kernel
  | 0, _ | 1, _ | 2, _ | 3, _ | 5, _ | 6, _ | 7, _ | 8, _ | 9, _ => simp [datum, flat, kind, PyData.canLay0, PyData.canLayAll0]
theorem canLay_datum {i : Nat} (hi : flat i = true) : (datum i).canLay0 = true := by rw [flat_min] at hi; rw [datum_min]; exact canLay_tab _ (by omega) hi
theorem depth_tab : ∀ i, i < 10 → (datum i).depth ≤ 2 := by decide +kernel
theorem depth_datum (i : Nat) : (datum i).depth ≤ 2 := by rw [datum_min]; exact depth_tab _ (by omega)
theorem showable_tab : ∀ i, i < 10 → (datum i).showable = true := by decide +kernel
theorem showable_datum (i : Nat) : (datum i).showable = true := by rw [datum_min]; exact showable_tab _ (by omega)
theorem kind_lt (i : Nat) : kind i < 6 := by
  rw [kind_min]
  have : ∀ i, i < 10 → kind i < 6 := by decide +kernel
  exact this _ (by omega)

end Mine

open PySem PySem.W PyProof.Rows
set_option Elab.async false
namespace Mine
open PySem.SeqAt PySem.AutoSeq1
/-- a dict of the one key 'k' -/
def DK (h : Heap) (a : Addr) (u : Value) : Prop :=
  ∃ o hs t n, h.get? a = some o ∧ o.cls = .type "dict" ∧ o.data = .dict #[⟨hs, .str "k" t, u⟩] n
theorem k_dk {h h' : Heap} {a : Addr} {u : Value} (k : Kept h h') (x : DK h a u) : DK h' a u := by
  obtain ⟨o, hs, t, n, ho, hc, hd⟩ := x; obtain ⟨_, e, sl, rfl, _⟩ := k a o ho; exact ⟨_, hs, t, n, e, hc, hd⟩
theorem DK.typeIs {s : Shared} {a : Addr} {u : Value} (x : DK s.heap a u) : s.TypeIs (.ref a) "dict" := let ⟨o, _, _, _, ho, hc, _⟩ := x; ⟨o, ho, hc⟩
theorem k_isStr (t : Tok) : Value.isStr (.str "k" t) "k" = true := by simp [Value.isStr]
theorem dk_find {prog : Program} {w : World} {A : Around} {E : Value → Shared → Prop} {s : Shared} {b : Addr} {ob : Obj} {hs h : Int} {ta tb : Tok} {v : Value} {n : Nat} {Q : Option Nat → Shared → Prop}
    (hob : s.heap.get? b = some ob) (hdb : ob.data = .dict #[⟨hs, .str "k" tb, v⟩] n) (hq : Q (some 0) s) : wpAny (model prog w) A (dictFind b (.str "k" ta) h) Q E s := by
  unfold dictFind
  refine wpAny_holding ?_
  refine wpAny_bind (wpAny_dictEntries hob hdb ?_)
  have ha : (#[(⟨hs, .str "k" tb, v⟩ : DictEntry)].all fun e => isExactStrKey e.key) = true := by simp [isExactStrKey]
  dsimp only
  rw [if_pos ha]
  unfold foundByValue
  have hj : (#[(⟨hs, .str "k" tb, v⟩ : DictEntry)]).findIdx? (fun e => e.key.isStr "k") = some 0 := by
    simp [k_isStr, Array.findIdx?, Array.findIdx?.loop]
  rw [hj]
  show wpAny _ _ (dictEpoch b (keyPart (.str "k" ta)) >>= _) _ _ _
  refine wpAny_bind (wpAny_dictEpoch hob hdb ?_)
  refine wpAny_bind (EqAt.str_str "k" tb "k" ta prog w _ _ ?_)
  refine wpAny_bind (wpAny_dictEpoch hob hdb ?_)
  rw [if_neg (by simp)]
  rw [if_pos (by simp)]
  exact wpAny_bind (wpAny_rule (wpAny_pure hq))

theorem dk_samePairs {prog : Program} {w : World} {A : Around} {E : Value → Shared → Prop} {s : Shared} {nm : String} {a b : Addr} {u v : Value} {Q : Bool → Shared → Prop}
    (ha : (a == sysModules) = false) (hb : (b == sysModules) = false) (da : DK s.heap a u) (db : DK s.heap b v) (e : EqAt A s u v true) (h : Q true s) :
    wpAny (model prog w) A (Builtin.Dict.samePairs nm a b) Q E s := by
  obtain ⟨oa, hsa, ta, na, hoa, _, hda⟩ := da
  obtain ⟨ob, hsb, tb, nb, hob, _, hdb⟩ := db
  unfold Builtin.Dict.samePairs Builtin.Dict.showsAll
  rw [if_neg (show ¬ (a == sysModules) = true by rw [ha]; exact Bool.false_ne_true), if_neg (show ¬ (b == sysModules) = true by rw [hb]; exact Bool.false_ne_true)]
  refine wpAny_bind (wpAny_pure (wpAny_bind (wpAny_pure ?_)))
  refine wpAny_bind (wpAny_dictEntries hoa hda ?_)
  dsimp only
  refine wpAny_bind (wpAny_dictEntries hob hdb ?_)
  rw [if_neg (by simp)]
  refine wpAny_bind (wpAny_dictEpoch hoa hda ?_)
  refine wpAny_bind ?_
  rw [Std.Legacy.Range.forIn_eq_forIn_range']
  simp only [Std.Legacy.Range.size, Nat.sub_zero, Nat.add_sub_cancel, Nat.div_one, List.size_toArray, List.length_cons, List.length_nil, Nat.zero_add, List.range'_succ, List.range'_zero, List.forIn_cons, List.forIn_nil]
  refine wpAny_bind (wpAny_bind (wpAny_dictEntries hoa hda ?_))
  show wpAny _ _ (holding _ _ >>= _) _ _ _
  refine wpAny_bind (wpAny_holding (wpAny_bind (dk_find hob hdb ?_)))
  refine wpAny_bind (wpAny_dictEntries hob hdb ?_)
  show wpAny _ _ (holding [v] (eqBool u v)) _ _ _
  refine wpAny_holding (e prog w _ _ ?_)
  show wpAny _ _ (if (!true) = true then _ else _) _ _ _
  rw [if_neg (by decide)]
  refine wpAny_bind (wpAny_dictEpoch hoa hda ?_)
  rw [if_neg (by simp)]
  refine wpAny_pure ?_
  refine wpAny_pure ?_
  exact wpAny_pure h

theorem rc_dk {prog : Program} {w : World} {A : Around} {E : Value → Shared → Prop} {s : Shared} {a b : Addr} {u v : Value} {Q : Value → Shared → Prop} (ha : (a == sysModules) = false) (hb : (b == sysModules) = false)
    (da : DK s.heap a u) (db : DK s.heap b v) (e : EqAt A.in1 s u v true) (hu : A.units < cLine) (h : Q (.bool true) s) : wpAny (model prog w) A (richCompare .Eq (.ref a) (.ref b)) Q E s := by
  refine wpAny_richCompare_same_room (op := .Eq) da.typeIs db.typeIs PySem.F.slot_dict_eq (wpAny_call_entry PySem.F.slot_dict_eq da.typeIs PySem.F.entry_dict_eq ?_ (PySem.F.args_dict_eq_2 _ _)) hu
  show wpAny _ _ (Builtin.Dict.dictSlotArgs "__eq__" ⟨[.ref a, .ref b], []⟩ >>= _) _ _ s
  refine wpAny_bind ?_
  unfold Builtin.Dict.dictSlotArgs
  refine wpAny_bind (wpAny_notOrdered_dict da.typeIs ?_)
  show wpAny _ _ (pure (Value.ref a, Value.ref b)) _ _ s
  refine wpAny_pure ?_
  refine wpAny_bind (wpAny_isInstance (T := "dict") db.typeIs PySem.F.sub_dict_dict ?_)
  simp only [Bool.not_true, Bool.false_eq_true, if_false]
  refine wpAny_bind (wpAny_pure (wpAny_bind (wpAny_pure ?_)))
  refine wpAny_bind (dk_samePairs ha hb da db e ?_)
  refine wpAny_pure ⟨_, rfl, ?_, ?_⟩
  · exact fun x => nomatch x
  · simpa using h

/-! a dict beside another kind -/
abbrev DObj (a : Addr) (s : Shared) (dd : Option Addr) (es : Array DictEntry) (n : Nat) (sl : Array (Option Value)) : Prop := s.heap.get? a = some { cls := .type "dict", dict := dd, data := .dict es n, slots := sl }
theorem dict_declines_bool (l : Addr) (dd : Option Addr) (es : Array DictEntry) (n : Nat) (sl : Array (Option Value)) (b : Bool) :
    Meets (Builtin.«dict.__eq__» ⟨[.ref l, .bool b], []⟩) (fun _ R s => DObj l s dd es n sl ∧ R (.ok (.ret .notImplemented)) s) :=
  .of_wp fun prog w A R s h => by obtain ⟨hp, g, d, tk, os⟩ := s; obtain ⟨hl, h⟩ := h; have f1 := F.sub_bool_dict; wp_walk using wpAny_loadPart' hl; exact ⟨_, rfl, h⟩
theorem dict_declines_int (l : Addr) (dd : Option Addr) (es : Array DictEntry) (n : Nat) (sl : Array (Option Value)) (b : Int) (u : Tok) :
    Meets (Builtin.«dict.__eq__» ⟨[.ref l, .int b u], []⟩) (fun _ R s => DObj l s dd es n sl ∧ R (.ok (.ret .notImplemented)) s) :=
  .of_wp fun prog w A R s h => by obtain ⟨hp, g, d, tk, os⟩ := s; obtain ⟨hl, h⟩ := h; have f1 := F.sub_int_dict; wp_walk using wpAny_loadPart' hl; exact ⟨_, rfl, h⟩
theorem dict_declines_str (l : Addr) (dd : Option Addr) (es : Array DictEntry) (n : Nat) (sl : Array (Option Value)) (b : Str) (u : Tok) :
    Meets (Builtin.«dict.__eq__» ⟨[.ref l, .str b u], []⟩) (fun _ R s => DObj l s dd es n sl ∧ R (.ok (.ret .notImplemented)) s) :=
  .of_wp fun prog w A R s h => by obtain ⟨hp, g, d, tk, os⟩ := s; obtain ⟨hl, h⟩ := h; have f1 := F.sub_str_dict; wp_walk using wpAny_loadPart' hl; exact ⟨_, rfl, h⟩
theorem dict_declines_seq (l b : Addr) (dd : Option Addr) (es : Array DictEntry) (n : Nat) (sl : Array (Option Value)) (c : String) (hs : isSubtype (.type c) (.type "dict") = pure false) (dd2 : Option Addr) (items : Array Value) (n2 : Nat) (sl2 : Array (Option Value)) :
    Meets (Builtin.«dict.__eq__» ⟨[.ref l, .ref b], []⟩) (fun _ R s => DObj l s dd es n sl ∧ s.heap.get? b = some { cls := .type c, dict := dd2, data := .seq items n2, slots := sl2 } ∧ R (.ok (.ret .notImplemented)) s) :=
  .of_wp fun prog w A R s h => by obtain ⟨hp, g, d, tk, os⟩ := s; obtain ⟨hl, hb, h⟩ := h; have f1 := hs; wp_walk using wpAny_loadPart' hl, wpAny_loadPart' hb; exact ⟨_, rfl, h⟩
theorem bool_declines_dict (b : Bool) (l : Addr) (dd : Option Addr) (es : Array DictEntry) (n : Nat) (sl : Array (Option Value)) :
    Meets (Builtin.«int.__eq__» ⟨[.bool b, .ref l], []⟩) (fun _ R s => DObj l s dd es n sl ∧ R (.ok (.ret .notImplemented)) s) :=
  .of_wp fun prog w A R s h => by obtain ⟨hp, g, d, tk, os⟩ := s; obtain ⟨hl, h⟩ := h; wp_walk using wpAny_loadPart' hl, wpAny_load hl; exact ⟨_, rfl, h⟩
theorem int_declines_dict (b : Int) (u : Tok) (l : Addr) (dd : Option Addr) (es : Array DictEntry) (n : Nat) (sl : Array (Option Value)) :
    Meets (Builtin.«int.__eq__» ⟨[.int b u, .ref l], []⟩) (fun _ R s => DObj l s dd es n sl ∧ R (.ok (.ret .notImplemented)) s) :=
  .of_wp fun prog w A R s h => by obtain ⟨hp, g, d, tk, os⟩ := s; obtain ⟨hl, h⟩ := h; wp_walk using wpAny_loadPart' hl, wpAny_load hl; exact ⟨_, rfl, h⟩
theorem str_declines_dict (b : Str) (u : Tok) (l : Addr) (dd : Option Addr) (es : Array DictEntry) (n : Nat) (sl : Array (Option Value)) :
    Meets (Builtin.«str.__eq__» ⟨[.str b u, .ref l], []⟩) (fun _ R s => DObj l s dd es n sl ∧ R (.ok (.ret .notImplemented)) s) :=
  .of_wp fun prog w A R s h => by obtain ⟨hp, g, d, tk, os⟩ := s; obtain ⟨hl, h⟩ := h; wp_walk using wpAny_loadPart' hl, wpAny_load hl; exact ⟨_, rfl, h⟩
theorem list_declines_dict (l b : Addr) (dd : Option Addr) (items : Array Value) (n : Nat) (sl : Array (Option Value)) (dd2 : Option Addr) (es : Array DictEntry) (n2 : Nat) (sl2 : Array (Option Value)) :
    Meets (Builtin.«list.__eq__» ⟨[.ref l, .ref b], []⟩) (fun _ R s => s.heap.get? l = some { cls := .type "list", dict := dd, data := .seq items n, slots := sl } ∧ DObj b s dd2 es n2 sl2 ∧ R (.ok (.ret .notImplemented)) s) :=
  .of_wp fun prog w A R s h => by obtain ⟨hp, g, d, tk, os⟩ := s; obtain ⟨hl, hb, h⟩ := h; have f1 := F.sub_dict_list; wp_walk using wpAny_loadPart' hl, wpAny_loadPart' hb; exact ⟨_, rfl, h⟩
theorem tuple_declines_dict (l b : Addr) (dd : Option Addr) (items : Array Value) (n : Nat) (sl : Array (Option Value)) (dd2 : Option Addr) (es : Array DictEntry) (n2 : Nat) (sl2 : Array (Option Value)) :
    Meets (Builtin.«tuple.__eq__» ⟨[.ref l, .ref b], []⟩) (fun _ R s => s.heap.get? l = some { cls := .type "tuple", dict := dd, data := .seq items n, slots := sl } ∧ DObj b s dd2 es n2 sl2 ∧ R (.ok (.ret .notImplemented)) s) :=
  .of_wp fun prog w A R s h => by obtain ⟨hp, g, d, tk, os⟩ := s; obtain ⟨hl, hb, h⟩ := h; have f1 := F.sub_dict_tuple; wp_walk using wpAny_loadPart' hl, wpAny_loadPart' hb; exact ⟨_, rfl, h⟩
end Mine

open PySem PySem.W PyProof.Rows
set_option Elab.async false
namespace Mine
open PySem.SeqAt PySem.AutoSeq1
section
variable {A : Around} {s : Shared} {a : Addr} {u : Value}
theorem eq_dk_bool (b : Bool) (d : DK s.heap a u) (hu : A.units < cLine) : EqAt A s (.ref a) (.bool b) false := fun prog w' E Q h => by
  obtain ⟨⟨cls, dd, data, sl⟩, hs, t, n, ho, hc, hd⟩ := d
  simp only at hc hd; subst hc hd
  unfold eqBool
  refine wpAny_holding ?_
  refine wpAny_ite_split (fun hab => absurd (eq_of_beq hab) nofun) (fun _ => ?_)
  exact wpAny_bind (rc_eq_decline_or (k := false) ⟨_, ho, rfl⟩ (PySem.typeIs_bool s b) (by decide) F.sub_bool_dict F.slot_dict_eq F.slot_bool_eq_refl
    (fun _ hq => call_meets F.slot_dict_eq ⟨_, ho, rfl⟩ F.entry_dict_eq (F.args_dict_eq_2 _ _) (dict_declines_bool a dd _ n sl b) ⟨ho, hq⟩)
    (fun _ hq => call_meets F.slot_bool_eq_refl (PySem.typeIs_bool s b) F.entry_int_eq (F.args_int_eq_2 _ _) (bool_declines_dict b a dd _ n sl) ⟨ho, hq⟩)
    (fun _ hq => wpAny_of_eq (rfl : isSame (.ref a) (.bool b) = pure false) hq) (.inr hu) (wpAny_truthy_bool h))
theorem eq_bool_dk (b : Bool) (d : DK s.heap a u) (hu : A.units < cLine) : EqAt A s (.bool b) (.ref a) false := fun prog w' E Q h => by
  obtain ⟨⟨cls, dd, data, sl⟩, hs, t, n, ho, hc, hd⟩ := d
  simp only at hc hd; subst hc hd
  unfold eqBool
  refine wpAny_holding ?_
  refine wpAny_ite_split (fun hab => absurd (eq_of_beq hab) nofun) (fun _ => ?_)
  exact wpAny_bind (rc_eq_decline_or (k := false) (PySem.typeIs_bool s b) ⟨_, ho, rfl⟩ (by decide) F.sub_dict_bool F.slot_bool_eq F.slot_dict_eq_refl
    (fun _ hq => call_meets F.slot_bool_eq (PySem.typeIs_bool s b) F.entry_int_eq (F.args_int_eq_2 _ _) (bool_declines_dict b a dd _ n sl) ⟨ho, hq⟩)
    (fun _ hq => call_meets F.slot_dict_eq_refl ⟨_, ho, rfl⟩ F.entry_dict_eq (F.args_dict_eq_2 _ _) (dict_declines_bool a dd _ n sl b) ⟨ho, hq⟩)
    (fun _ hq => wpAny_of_eq (rfl : isSame (.bool b) (.ref a) = pure false) hq) (.inr hu) (wpAny_truthy_bool h))
theorem eq_dk_int (b : Int) (v : Tok) (d : DK s.heap a u) (hu : A.units < cLine) : EqAt A s (.ref a) (.int b v) false := fun prog w' E Q h => by
  obtain ⟨⟨cls, dd, data, sl⟩, hs, t, n, ho, hc, hd⟩ := d
  simp only at hc hd; subst hc hd
  unfold eqBool
  refine wpAny_holding ?_
  refine wpAny_ite_split (fun hab => absurd (eq_of_beq hab) nofun) (fun _ => ?_)
  exact wpAny_bind (rc_eq_decline_or (k := false) ⟨_, ho, rfl⟩ (typeIs_int s b v) (by decide) F.sub_int_dict F.slot_dict_eq F.slot_int_eq_refl
    (fun _ hq => call_meets F.slot_dict_eq ⟨_, ho, rfl⟩ F.entry_dict_eq (F.args_dict_eq_2 _ _) (dict_declines_int a dd _ n sl b v) ⟨ho, hq⟩)
    (fun _ hq => call_meets F.slot_int_eq_refl (typeIs_int s b v) F.entry_int_eq (F.args_int_eq_2 _ _) (int_declines_dict b v a dd _ n sl) ⟨ho, hq⟩)
    (fun _ hq => wpAny_of_eq (rfl : isSame (.ref a) (.int b v) = pure false) hq) (.inr hu) (wpAny_truthy_bool h))
theorem eq_int_dk (b : Int) (v : Tok) (d : DK s.heap a u) (hu : A.units < cLine) : EqAt A s (.int b v) (.ref a) false := fun prog w' E Q h => by
  obtain ⟨⟨cls, dd, data, sl⟩, hs, t, n, ho, hc, hd⟩ := d
  simp only at hc hd; subst hc hd
  unfold eqBool
  refine wpAny_holding ?_
  refine wpAny_ite_split (fun hab => absurd (eq_of_beq hab) nofun) (fun _ => ?_)
  exact wpAny_bind (rc_eq_decline_or (k := false) (typeIs_int s b v) ⟨_, ho, rfl⟩ (by decide) F.sub_dict_int F.slot_int_eq F.slot_dict_eq_refl
    (fun _ hq => call_meets F.slot_int_eq (typeIs_int s b v) F.entry_int_eq (F.args_int_eq_2 _ _) (int_declines_dict b v a dd _ n sl) ⟨ho, hq⟩)
    (fun _ hq => call_meets F.slot_dict_eq_refl ⟨_, ho, rfl⟩ F.entry_dict_eq (F.args_dict_eq_2 _ _) (dict_declines_int a dd _ n sl b v) ⟨ho, hq⟩)
    (fun _ hq => wpAny_of_eq (rfl : isSame (.int b v) (.ref a) = pure false) hq) (.inr hu) (wpAny_truthy_bool h))
theorem eq_dk_str (b : Str) (v : Tok) (d : DK s.heap a u) (hu : A.units < cLine) : EqAt A s (.ref a) (.str b v) false := fun prog w' E Q h => by
  obtain ⟨⟨cls, dd, data, sl⟩, hs, t, n, ho, hc, hd⟩ := d
  simp only at hc hd; subst hc hd
  unfold eqBool
  refine wpAny_holding ?_
  refine wpAny_ite_split (fun hab => absurd (eq_of_beq hab) nofun) (fun _ => ?_)
  exact wpAny_bind (rc_eq_decline_or (k := false) ⟨_, ho, rfl⟩ (typeIs_str s b v) (by decide) F.sub_str_dict F.slot_dict_eq F.slot_str_eq_refl
    (fun _ hq => call_meets F.slot_dict_eq ⟨_, ho, rfl⟩ F.entry_dict_eq (F.args_dict_eq_2 _ _) (dict_declines_str a dd _ n sl b v) ⟨ho, hq⟩)
    (fun _ hq => call_meets F.slot_str_eq_refl (typeIs_str s b v) F.entry_str_eq (F.args_str_eq_2 _ _) (str_declines_dict b v a dd _ n sl) ⟨ho, hq⟩)
    (fun _ hq => wpAny_of_eq (rfl : isSame (.ref a) (.str b v) = pure false) hq) (.inr hu) (wpAny_truthy_bool h))
theorem eq_str_dk (b : Str) (v : Tok) (d : DK s.heap a u) (hu : A.units < cLine) : EqAt A s (.str b v) (.ref a) false := fun prog w' E Q h => by
  obtain ⟨⟨cls, dd, data, sl⟩, hs, t, n, ho, hc, hd⟩ := d
  simp only at hc hd; subst hc hd
  unfold eqBool
  refine wpAny_holding ?_
  refine wpAny_ite_split (fun hab => absurd (eq_of_beq hab) nofun) (fun _ => ?_)
  exact wpAny_bind (rc_eq_decline_or (k := false) (typeIs_str s b v) ⟨_, ho, rfl⟩ (by decide) F.sub_dict_str F.slot_str_eq F.slot_dict_eq_refl
    (fun _ hq => call_meets F.slot_str_eq (typeIs_str s b v) F.entry_str_eq (F.args_str_eq_2 _ _) (str_declines_dict b v a dd _ n sl) ⟨ho, hq⟩)
    (fun _ hq => call_meets F.slot_dict_eq_refl ⟨_, ho, rfl⟩ F.entry_dict_eq (F.args_dict_eq_2 _ _) (dict_declines_str a dd _ n sl b v) ⟨ho, hq⟩)
    (fun _ hq => wpAny_of_eq (rfl : isSame (.str b v) (.ref a) = pure false) hq) (.inr hu) (wpAny_truthy_bool h))
theorem ne_dk_seq {b : Addr} {o : Obj} {items : Array Value} {n : Nat} (d : DK s.heap a u) (ho : s.heap.get? b = some o) (hd : o.data = .seq items n) : a ≠ b := fun e => by
  subst e
  obtain ⟨o', _, _, _, ho', _, hd'⟩ := d
  rw [ho] at ho'; cases ho'; rw [hd] at hd'; cases hd'
theorem eq_dk_list {b : Addr} {items : Array Value} (d : DK s.heap a u) (hl : s.heap.IsList b items) (hu : A.units < cLine) : EqAt A s (.ref a) (.ref b) false := by
  obtain ⟨⟨cls2, dd2, data2, sl2⟩, ho2, hc2, n2, hd2⟩ := id hl
  have hne := ne_dk_seq d ho2 hd2
  obtain ⟨⟨cls, dd, data, sl⟩, hs, t, n, ho, hc, hd⟩ := d
  simp only at hc hd hc2 hd2; subst hc hd hc2 hd2
  refine .of_refs hne fun prog w' E Q h => ?_
  exact rc_eq_decline_or (k := false) ⟨_, ho, rfl⟩ ⟨_, ho2, rfl⟩ (by decide) F.sub_list_dict F.slot_dict_eq F.slot_list_eq_refl
    (fun _ hq => call_meets F.slot_dict_eq ⟨_, ho, rfl⟩ F.entry_dict_eq (F.args_dict_eq_2 _ _) (dict_declines_seq a b dd _ n sl "list" F.sub_list_dict dd2 _ n2 sl2) ⟨ho, ho2, hq⟩)
    (fun _ hq => call_meets F.slot_list_eq_refl ⟨_, ho2, rfl⟩ F.entry_list_eq (F.args_list_eq_2 _ _) (list_declines_dict b a dd2 _ n2 sl2 dd _ n sl) ⟨ho2, ho, hq⟩)
    (fun _ hq => wpAny_isSame_ref_other' hne ho ho2 (by simp) hq) (.inr hu) h
theorem eq_list_dk {b : Addr} {items : Array Value} (d : DK s.heap a u) (hl : s.heap.IsList b items) (hu : A.units < cLine) : EqAt A s (.ref b) (.ref a) false := by
  obtain ⟨⟨cls2, dd2, data2, sl2⟩, ho2, hc2, n2, hd2⟩ := id hl
  have hne := ne_dk_seq d ho2 hd2
  obtain ⟨⟨cls, dd, data, sl⟩, hs, t, n, ho, hc, hd⟩ := d
  simp only at hc hd hc2 hd2; subst hc hd hc2 hd2
  refine .of_refs hne.symm fun prog w' E Q h => ?_
  exact rc_eq_decline_or (k := false) ⟨_, ho2, rfl⟩ ⟨_, ho, rfl⟩ (by decide) F.sub_dict_list F.slot_list_eq F.slot_dict_eq_refl
    (fun _ hq => call_meets F.slot_list_eq ⟨_, ho2, rfl⟩ F.entry_list_eq (F.args_list_eq_2 _ _) (list_declines_dict b a dd2 _ n2 sl2 dd _ n sl) ⟨ho2, ho, hq⟩)
    (fun _ hq => call_meets F.slot_dict_eq_refl ⟨_, ho, rfl⟩ F.entry_dict_eq (F.args_dict_eq_2 _ _) (dict_declines_seq a b dd _ n sl "list" F.sub_list_dict dd2 _ n2 sl2) ⟨ho, ho2, hq⟩)
    (fun _ hq => wpAny_isSame_ref_other' hne.symm ho2 ho (by simp) hq) (.inr hu) h
theorem eq_dk_tuple {b : Addr} {items : Array Value} (d : DK s.heap a u) (hl : s.heap.IsTuple b items) (hu : A.units < cLine) : EqAt A s (.ref a) (.ref b) false := by
  obtain ⟨⟨cls2, dd2, data2, sl2⟩, ho2, hc2, n2, hd2⟩ := id hl
  have hne := ne_dk_seq d ho2 hd2
  obtain ⟨⟨cls, dd, data, sl⟩, hs, t, n, ho, hc, hd⟩ := d
  simp only at hc hd hc2 hd2; subst hc hd hc2 hd2
  refine .of_refs hne fun prog w' E Q h => ?_
  exact rc_eq_decline_or (k := false) ⟨_, ho, rfl⟩ ⟨_, ho2, rfl⟩ (by decide) F.sub_tuple_dict F.slot_dict_eq F.slot_tuple_eq_refl
    (fun _ hq => call_meets F.slot_dict_eq ⟨_, ho, rfl⟩ F.entry_dict_eq (F.args_dict_eq_2 _ _) (dict_declines_seq a b dd _ n sl "tuple" F.sub_tuple_dict dd2 _ n2 sl2) ⟨ho, ho2, hq⟩)
    (fun _ hq => call_meets F.slot_tuple_eq_refl ⟨_, ho2, rfl⟩ F.entry_tuple_eq (F.args_tuple_eq_2 _ _) (tuple_declines_dict b a dd2 _ n2 sl2 dd _ n sl) ⟨ho2, ho, hq⟩)
    (fun _ hq => wpAny_isSame_ref_other hne ho ho2 (by simp) hq) (.inr hu) h
theorem eq_tuple_dk {b : Addr} {items : Array Value} (d : DK s.heap a u) (hl : s.heap.IsTuple b items) (hu : A.units < cLine) : EqAt A s (.ref b) (.ref a) false := by
  obtain ⟨⟨cls2, dd2, data2, sl2⟩, ho2, hc2, n2, hd2⟩ := id hl
  have hne := ne_dk_seq d ho2 hd2
  obtain ⟨⟨cls, dd, data, sl⟩, hs, t, n, ho, hc, hd⟩ := d
  simp only at hc hd hc2 hd2; subst hc hd hc2 hd2
  refine .of_refs hne.symm fun prog w' E Q h => ?_
  exact rc_eq_decline_or (k := false) ⟨_, ho2, rfl⟩ ⟨_, ho, rfl⟩ (by decide) F.sub_dict_tuple F.slot_tuple_eq F.slot_dict_eq_refl
    (fun _ hq => call_meets F.slot_tuple_eq ⟨_, ho2, rfl⟩ F.entry_tuple_eq (F.args_tuple_eq_2 _ _) (tuple_declines_dict b a dd2 _ n2 sl2 dd _ n sl) ⟨ho2, ho, hq⟩)
    (fun _ hq => call_meets F.slot_dict_eq_refl ⟨_, ho, rfl⟩ F.entry_dict_eq (F.args_dict_eq_2 _ _) (dict_declines_seq a b dd _ n sl "tuple" F.sub_tuple_dict dd2 _ n2 sl2) ⟨ho, ho2, hq⟩)
    (fun _ hq => wpAny_isSame_ref_other' hne.symm ho2 ho (by simp) hq) (.inr hu) h
end

/-- `v` is thing number `i` in the heap -/
inductive Thing (h : Heap) : Value → Nat → Prop
  | flat {v : Value} {i : Nat} {as : List Addr} : flat i = true → Reads h v (datum i) as → Thing h v i
  | one {a : Addr} {t : Tok} : (a == sysModules) = false → DK h a (.int 1 t) → Thing h (.ref a) 7
  | yes {a : Addr} : (a == sysModules) = false → DK h a (.bool true) → Thing h (.ref a) 8
theorem k_thing {h h' : Heap} {v : Value} {i : Nat} (k : Kept h h') (x : Thing h v i) : Thing h' v i := by
  cases x with
  | flat f r => exact .flat f (k_reads k r)
  | one n d => exact .one n (k_dk k d)
  | yes n d => exact .yes n (k_dk k d)

theorem datum_ne_none (i : Nat) : datum i ≠ .none := by unfold datum; split <;> simp
theorem flat_eq_dk {A : Around} {s : Shared} {v : Value} {i : Nat} {as : List Addr} {a : Addr} {u : Value} (f : flat i = true) (r : Reads s.heap v (datum i) as) (d : DK s.heap a u) (hu : A.units < cLine) : EqAt A s v (.ref a) false := by
  have hc := canLay_datum f
  have hn := datum_ne_none i
  revert r hc hn
  generalize datum i = D
  intro r hc hn
  cases r with
  | none => exact absurd rfl hn
  | bool b => exact eq_bool_dk b d hu
  | int b t => exact eq_int_dk b t d hu
  | str b t => exact eq_str_dk b t d hu
  | list h1 h2 h3 _ => exact eq_list_dk d ⟨_, h1, h2, _, h3⟩ hu
  | tuple h1 h2 h3 _ => exact eq_tuple_dk d ⟨_, h1, h2, _, h3⟩ hu
  | dict => exact absurd hc (by simp [PyData.canLay0])
theorem dk_eq_flat {A : Around} {s : Shared} {v : Value} {i : Nat} {as : List Addr} {a : Addr} {u : Value} (f : flat i = true) (r : Reads s.heap v (datum i) as) (d : DK s.heap a u) (hu : A.units < cLine) : EqAt A s (.ref a) v false := by
  have hc := canLay_datum f
  have hn := datum_ne_none i
  revert r hc hn
  generalize datum i = D
  intro r hc hn
  cases r with
  | none => exact absurd rfl hn
  | bool b => exact eq_dk_bool b d hu
  | int b t => exact eq_dk_int b t d hu
  | str b t => exact eq_dk_str b t d hu
  | list h1 h2 h3 _ => exact eq_dk_list d ⟨_, h1, h2, _, h3⟩ hu
  | tuple h1 h2 h3 _ => exact eq_dk_tuple d ⟨_, h1, h2, _, h3⟩ hu
  | dict => exact absurd hc (by simp [PyData.canLay0])

theorem rc_eqAt_dk {A : Around} {s : Shared} {a b : Addr} {u v : Value} (ha : (a == sysModules) = false) (hb : (b == sysModules) = false)
    (da : DK s.heap a u) (db : DK s.heap b v) (e : EqAt A.in1 s u v true) (hu : A.units < cLine) : EqAt A s (.ref a) (.ref b) true := by
  by_cases q : a = b
  · subst q; exact .same _
  · exact .of_refs q fun prog w E Q h => rc_dk ha hb da db e hu h

/-- two things compared: equal just if they are of one kind -/
theorem thing_eq {A : Around} {s : Shared} {v u : Value} {i j : Nat} (x : Thing s.heap v i) (y : Thing s.heap u j) (hu : A.units + 10 < 9900) : EqAt A s v u (kind i == kind j) := by
  have hl : A.units < cLine := by show _ < 9900; omega
  cases x with
  | flat f r =>
    cases y with
    | flat f' r' =>
      rename_i as bs
      have := eqAt_reads (datum i) (datum j) A s v u as bs r r' (canLay_datum f) (canLay_datum f') (by
        have h1 := depth_datum i
        have h2 : min (datum i).depth (datum j).depth ≤ (datum i).depth := Nat.min_le_left _ _
        show _ < 9900
        omega)
      rwa [eqv_datum f] at this
    | one n d =>
      have e : (kind i == kind 7) = false := by simpa [flat, kind] using f
      rw [e]; exact flat_eq_dk f r d hl
    | yes n d =>
      have e : (kind i == kind 8) = false := by simpa [flat, kind] using f
      rw [e]; exact flat_eq_dk f r d hl
  | one n d =>
    cases y with
    | flat f' r' =>
      have e : (kind 7 == kind j) = false := by simp [flat, kind] at f' ⊢; omega
      rw [e]; exact dk_eq_flat f' r' d hl
    | one n' d' => exact rc_eqAt_dk n n' d d' (EqAt.int_int 1 _ 1 _) hl
    | yes n' d' => exact rc_eqAt_dk n n' d d' (EqAt.int_bool 1 _ true) hl
  | yes n d =>
    cases y with
    | flat f' r' =>
      have e : (kind 8 == kind j) = false := by simp [flat, kind] at f' ⊢; omega
      rw [e]; exact dk_eq_flat f' r' d hl
    | one n' d' => exact rc_eqAt_dk n n' d d' (EqAt.bool_int true 1 _) hl
    | yes n' d' => exact rc_eqAt_dk n n' d d' (EqAt.bool_bool true true) hl
end Mine

open PySem PySem.W PyProof.Rows
set_option Elab.async false
namespace Mine
open PySem.SeqAt PySem.AutoSeq1 PySem.MeetsSeq

/-- the text of thing `i` -/
def txt : Nat → Str
  | 0 => toString (1 : Int)
  | 1 => (if true then "True" else "False" : String)
  | 4 => "a"
  | 5 => toString (0 : Int)
  | 6 => (if false then "True" else "False" : String)
  | i => (datum i).shown

theorem thing_str {prog : Program} {w : World} {A : Around} {E : Value → Shared → Prop} {s : Shared} {v : Value} {i : Nat} {Q : Value → Shared → Prop} (hi : i < 10) (x : Thing s.heap v i) (hg : A.guards = some []) (hu : A.units + 20 < 9900)
    (hQ : ∀ h' u tk, (∀ b o, s.heap.get? b = some o → h'.get? b = some o) → Q (.str (txt i) u) { s with heap := h', toks := tk }) : wpAny (model prog w) A (call (.type "str") [v]) Q E s := by
  have hz : ∀ i, i < 10 → (datum i).shown.length ≤ sizeLine := by decide +kernel
  have nd : ∀ i {as : List Addr}, (datum i).hasDict = false → (datum i).hasDict = true → sysModules ∉ as := fun i as h1 h2 => by rw [h1] at h2; cases h2
  have room : ∀ i, A.units + ((datum i).depth + 3) < cLine := fun i => by have := depth_datum i; show _ < 9900; omega
  cases x with
  | flat f r =>
    match i, hi, f, r with
    | 0, _, _, .int _ t => exact P.str_of_int (by decide +kernel) (hQ s.heap _ _ fun _ _ e => e)
    | 1, _, _, .bool _ => exact P.str_of_bool (hQ s.heap _ _ fun _ _ e => e)
    | 2, hi, _, .list h1 h2 h3 h4 => exact str_of_reads (.list h1 h2 h3 h4) (showable_datum 2) (nd 2 rfl) hg (room 2) (fun _ _ e => e) hQ (hz 2 hi)
    | 3, hi, _, .list h1 h2 h3 h4 => exact str_of_reads (.list h1 h2 h3 h4) (showable_datum 3) (nd 3 rfl) hg (room 3) (fun _ _ e => e) hQ (hz 3 hi)
    | 4, _, _, .str _ t => exact P.str_of_str (hQ s.heap _ _ fun _ _ e => e)
    | 5, _, _, .int _ t => exact P.str_of_int (by decide +kernel) (hQ s.heap _ _ fun _ _ e => e)
    | 6, _, _, .bool _ => exact P.str_of_bool (hQ s.heap _ _ fun _ _ e => e)
    | 9, hi, _, .tuple h1 h2 h3 h4 => exact str_of_reads (.tuple h1 h2 h3 h4) (showable_datum 9) (nd 9 rfl) hg (room 9) (fun _ _ e => e) hQ (hz 9 hi)
  | one n d =>
    obtain ⟨o, hs, t, m, ho, hc, hd⟩ := d
    refine str_of_reads (d := datum 7) (.dict (kvs := [(.str "k", .int 1)]) ho hc hd (.cons (.str _ _) .nil) (.cons (.int _ _) .nil)) (showable_datum 7) (fun _ => ?_) hg (room 7) (fun _ _ e => e) hQ (hz 7 (by decide))
    intro hm
    rcases List.mem_cons.mp hm with q | q
    · rw [q] at n; simp at n
    · cases q
  | yes n d =>
    obtain ⟨o, hs, t, m, ho, hc, hd⟩ := d
    refine str_of_reads (d := datum 8) (.dict (kvs := [(.str "k", .bool true)]) ho hc hd (.cons (.str _ _) .nil) (.cons (.bool _) .nil)) (showable_datum 8) (fun _ => ?_) hg (room 8) (fun _ _ e => e) hQ (hz 8 (by decide))
    intro hm
    rcases List.mem_cons.mp hm with q | q
    · rw [q] at n; simp at n
    · cases q

/-! ## list.remove with comparisons that look into the heap -/
theorem remove_loopAt (l : Addr) (items : Array Value) (n : Nat) (dd : Option Addr) (sl : Array (Option Value)) (x : Value) (e : Value → Bool) (j : Nat) (hj : j < items.size) (hit : e items[j] = true) (k : Nat) (hs1 : items.size ≤ sizeLine) :
    ∀ i : Nat, j - i = k → i ≤ j → (∀ m (hm : m < items.size), i ≤ m → m < j → e items[m] = false) → Meets (Builtin.«list.remove.loop» ⟨[.ref l, x, rawInt i], []⟩)
      (fun A R s => s.heap.get? l = some { cls := .type "list", dict := dd, data := .seq items n, slots := sl } ∧ (∀ y, y ∈ items → EqAt A.in1 s y x (e y)) ∧ R (.ok (.ret .none)) { s with heap := s.heap.update l (Obj.mapSeq fun xs => xs.eraseIdxIfInBounds j) }) := by
  induction k with
  | zero =>
    intro i hk hij hno prog w A R s h
    obtain ⟨hp, g, d, tk, os⟩ := s; obtain ⟨hl, he, h⟩ := h
    have hij' : i = j := by omega
    subst hij'
    wp_walk using wpAny_loadPart' hl
    have hi : items[((i : Nat) : Int).toNat]? = some items[i] := by simp [hj]
    rw [hi]
    refine wpAny_bind (he _ (Array.getElem_mem hj) prog w _ _ ?_)
    rw [hit]
    have hz' : (items.eraseIdxIfInBounds i).size ≤ sizeLine + 1 := Nat.le_trans (size_erased items _) (Nat.le_succ_of_le hs1)
    wp_walk using (wpAny_updateSeq hl rfl (hz := hs1) (_hz' := hz')), wpAny_loadPart' hl
    simpa using h
  | succ k ih =>
    intro i hk hij hno prog w A R s h
    obtain ⟨hp, g, d, tk, os⟩ := s; obtain ⟨hl, he, h⟩ := h
    have hlt : i < items.size := by omega
    wp_walk using wpAny_loadPart' hl
    have hi : items[((i : Nat) : Int).toNat]? = some items[i] := by simp [hlt]
    have hc : ((i : Int) + 1) = ((i + 1 : Nat) : Int) := by push_cast; rfl
    rw [hi]
    refine wpAny_bind (he _ (Array.getElem_mem hlt) prog w _ _ ?_)
    rw [hno i hlt (Nat.le_refl _) (by omega)]
    wp_walk
    rw [hc]
    exact ⟨plainId_quiet plain_remove_loop _, codeAny_builtin entry_remove_loop (by
      rw [Around.under_plainId plain_remove_loop _]
      exact ih (i + 1) (by omega) (by omega) (fun m hm h1 h2 => hno m hm (by omega) h2) prog w A R _ ⟨hl, he, h⟩)⟩
theorem list_removeAt (l : Addr) (items : Array Value) (n : Nat) (dd : Option Addr) (sl : Array (Option Value)) (x : Value) (e : Value → Bool) (j : Nat) (hj : j < items.size)
    (hit : e items[j] = true) (hno : ∀ m (hm : m < items.size), m < j → e items[m] = false) (hs1 : items.size ≤ sizeLine) :
    Meets (Builtin.«list.remove» ⟨[.ref l, x], []⟩)
      (fun A R s => s.heap.get? l = some { cls := .type "list", dict := dd, data := .seq items n, slots := sl } ∧ (∀ y, y ∈ items → EqAt A.in1 s y x (e y)) ∧ R (.ok (.ret .none)) { s with heap := s.heap.update l (Obj.mapSeq fun xs => xs.eraseIdxIfInBounds j) }) := by
  intro prog w A R s h
  obtain ⟨hp, g, d, tk, os⟩ := s; obtain ⟨hl, he, h⟩ := h
  wp_walk using wpAny_loadPart' hl
  exact ⟨plainId_quiet plain_remove_loop _, codeAny_builtin entry_remove_loop (by
    rw [Around.under_plainId plain_remove_loop _]
    exact remove_loopAt l items n dd sl x e j hj hit _ hs1 0 rfl (Nat.zero_le _) (fun m hm _ h2 => hno m hm h2) prog w A R _ ⟨hl, he, h⟩)⟩

theorem remove_loop_noneAt (l : Addr) (items : Array Value) (n : Nat) (dd : Option Addr) (sl : Array (Option Value)) (x : Value) (e : Value → Bool) (hno : ∀ m (hm : m < items.size), e items[m] = false) (k : Nat) :
    ∀ i : Nat, items.size - i = k → Meets (Builtin.«list.remove.loop» ⟨[.ref l, x, rawInt i], []⟩)
      (fun A R s => s.heap.get? l = some { cls := .type "list", dict := dd, data := .seq items n, slots := sl } ∧ (∀ y, y ∈ items → EqAt A.in1 s y x (e y)) ∧ raisesNew "ValueError" A R s) := by
  induction k with
  | zero =>
    intro i hk prog w A R s h
    obtain ⟨hp, g, d, tk, os⟩ := s; obtain ⟨hl, he, h⟩ := h
    wp_walk using wpAny_loadPart' hl
    have hi : items[((i : Nat) : Int).toNat]? = none := by simp; omega
    rw [hi]
    wp_walk
    exact_raiseError plainExc_ValueError h.1 h.2
  | succ k ih =>
    intro i hk prog w A R s h
    obtain ⟨hp, g, d, tk, os⟩ := s; obtain ⟨hl, he, h⟩ := h
    have hlt : i < items.size := by omega
    wp_walk using wpAny_loadPart' hl
    have hi : items[((i : Nat) : Int).toNat]? = some items[i] := by simp [hlt]
    have hc : ((i : Int) + 1) = ((i + 1 : Nat) : Int) := by push_cast; rfl
    rw [hi]
    refine wpAny_bind (he _ (Array.getElem_mem hlt) prog w _ _ ?_)
    rw [hno i hlt]
    wp_walk
    rw [hc]
    exact ⟨plainId_quiet plain_remove_loop _, codeAny_builtin entry_remove_loop (by
      rw [Around.under_plainId plain_remove_loop _]
      exact ih (i + 1) (by omega) prog w A R _ ⟨hl, he, h⟩)⟩

theorem list_remove_noneAt (l : Addr) (items : Array Value) (n : Nat) (dd : Option Addr) (sl : Array (Option Value)) (x : Value) (e : Value → Bool) (hno : ∀ m (hm : m < items.size), e items[m] = false) :
    Meets (Builtin.«list.remove» ⟨[.ref l, x], []⟩)
      (fun A R s => s.heap.get? l = some { cls := .type "list", dict := dd, data := .seq items n, slots := sl } ∧ (∀ y, y ∈ items → EqAt A.in1 s y x (e y)) ∧ raisesNew "ValueError" A R s) := by
  intro prog w A R s h
  obtain ⟨hp, g, d, tk, os⟩ := s; obtain ⟨hl, he, h⟩ := h
  wp_walk using wpAny_loadPart' hl
  exact ⟨plainId_quiet plain_remove_loop _, codeAny_builtin entry_remove_loop (by
    rw [Around.under_plainId plain_remove_loop _]
    exact remove_loop_noneAt l items n dd sl x e hno _ 0 rfl prog w A R _ ⟨hl, he, h⟩)⟩

/-! ## a value is a thing of one kind alone -/
theorem thing_reads {h : Heap} {v : Value} {i : Nat} (x : Thing h v i) : ∃ as, Reads h v (datum i) as := by
  cases x with
  | flat _ r => exact ⟨_, r⟩
  | one n d => obtain ⟨o, hs, t, m, ho, hc, hd⟩ := d; exact ⟨_, .dict (kvs := [(.str "k", .int 1)]) ho hc hd (.cons (.str _ _) .nil) (.cons (.int _ _) .nil)⟩
  | yes n d => obtain ⟨o, hs, t, m, ho, hc, hd⟩ := d; exact ⟨_, .dict (kvs := [(.str "k", .bool true)]) ho hc hd (.cons (.str _ _) .nil) (.cons (.bool _) .nil)⟩
theorem datum_kind {i j : Nat} (e : datum i = datum j) : kind i = kind j := by
  by_cases f : flat i = true
  · have h1 := eqv_datum (j := j) f
    have h2 := eqv_datum (j := i) f
    rw [← e, h2] at h1
    simpa using h1.symm
  · by_cases f' : flat j = true
    · have h1 := eqv_datum (j := i) f'
      have h2 := eqv_datum (j := j) f'
      rw [e, h2] at h1
      simp at h1
      omega
    · simp [flat] at f f'; omega
theorem thing_kind {h : Heap} {v : Value} {i j : Nat} (x : Thing h v i) (y : Thing h v j) : kind i = kind j := by
  obtain ⟨as, r⟩ := thing_reads x
  obtain ⟨bs, r'⟩ := thing_reads y
  exact datum_kind (PySem.Reads.unique r _ _ r').1

/-- things: the values `vs` are the things `is` -/
inductive Things (h : Heap) : List Value → List Nat → Prop
  | nil : Things h [] []
  | cons {v : Value} {i : Nat} {vs : List Value} {is : List Nat} : i < 10 → Thing h v i → Things h vs is → Things h (v :: vs) (i :: is)
theorem k_things {h h' : Heap} {vs : List Value} {is : List Nat} (k : Kept h h') (x : Things h vs is) : Things h' vs is := by
  induction x with
  | nil => exact .nil
  | cons hi t _ ih => exact .cons hi (k_thing k t) ih
theorem Things.length {h : Heap} {vs : List Value} {is : List Nat} (x : Things h vs is) : vs.length = is.length := by
  induction x with
  | nil => rfl
  | cons _ _ _ ih => simp [ih]
theorem Things.append {h : Heap} {vs us : List Value} {is js : List Nat} (x : Things h vs is) (y : Things h us js) : Things h (vs ++ us) (is ++ js) := by
  induction x with
  | nil => exact y
  | cons hi t _ ih => exact .cons hi t ih
theorem Things.get {h : Heap} {vs : List Value} {is : List Nat} (x : Things h vs is) : ∀ {m : Nat} {v : Value}, vs[m]? = some v → ∃ i, is[m]? = some i ∧ i < 10 ∧ Thing h v i := by
  induction x with
  | nil => intro m v e; simp at e
  | cons hi t _ ih =>
    intro m v e
    cases m with
    | zero => simp at e; subst e; exact ⟨_, rfl, hi, t⟩
    | succ m => exact ih (by simpa using e)
theorem Things.mem {h : Heap} {vs : List Value} {is : List Nat} (x : Things h vs is) {v : Value} (e : v ∈ vs) : ∃ i, i < 10 ∧ Thing h v i := by
  obtain ⟨m, hm⟩ := List.getElem?_of_mem e
  obtain ⟨i, _, h1, h2⟩ := x.get hm
  exact ⟨i, h1, h2⟩
open Classical in
/-- is the value a thing of that kind -/
noncomputable def ofKind (h : Heap) (k : Nat) (y : Value) : Bool := decide (∃ i, Thing h y i ∧ kind i = k)
open Classical in
theorem ofKind_eq {h : Heap} {k i : Nat} {y : Value} (x : Thing h y i) : ofKind h k y = (kind i == k) := by
  unfold ofKind
  by_cases q : kind i = k
  · rw [decide_eq_true (⟨i, x, q⟩ : ∃ i, Thing h y i ∧ kind i = k)]; simp [q]
  · rw [decide_eq_false (fun ⟨j, y', r⟩ => q ((thing_kind x y').trans r))]; simp [q]
theorem any_ofKind {h : Heap} {k : Nat} {vs : List Value} {is : List Nat} (x : Things h vs is) : vs.any (ofKind h k) = is.any (fun i => kind i == k) := by
  induction x with
  | nil => rfl
  | cons hi t _ ih => rw [List.any_cons, List.any_cons, ofKind_eq t, ih]
theorem things_eqAt {A : Around} {s : Shared} {vs : List Value} {is : List Nat} {x : Value} {j : Nat} (X : Things s.heap vs is) (y : Thing s.heap x j) (hu : A.units + 10 < 9900) : ∀ v, v ∈ vs.toArray → EqAt A s v x (ofKind s.heap (kind j) v) := by
  intro v hv
  obtain ⟨i, _, t⟩ := X.mem (by simpa using hv)
  rw [ofKind_eq t]
  exact thing_eq t y hu
end Mine

open PySem PySem.W PyProof.Rows
set_option Elab.async false
set_option maxRecDepth 100000
namespace Mine
open PySem.SeqAt PySem.Calls
/-! ## the program's own statements, by their places -/
def stm (k : Nat) : Stmt := match PySem.Challenge.pw_oy0006_01.main.body.drop k with | d :: _ => d | [] => .Pass ⟨0, 0, 0, 0⟩
def bodyOf : Stmt → List Stmt
  | .FunctionDef _ _ b _ _ _ _ _ _ _ => b
  | _ => []
def scopeOf : Stmt → Scope
  | .FunctionDef _ _ _ _ _ _ sc _ _ _ => sc
  | _ => { kind := .function, names := [], isGenerator := false, isCoroutine := false }
def paramsOf : Stmt → Arguments
  | .FunctionDef _ a _ _ _ _ _ _ _ _ => a
  | _ => ⟨[], [], none, [], [], none, []⟩
def nameOf : Stmt → Str
  | .FunctionDef n _ _ _ _ _ _ _ _ _ => n
  | _ => ""
def posOf : Stmt → Pos
  | .FunctionDef _ _ _ _ _ _ _ _ _ p => p
  | _ => ⟨0, 0, 0, 0⟩

theorem k_plainL {h h' : Heap} {a : Addr} {items} (k : Kept h h') (x : PlainL h a items) : PlainL h' a items := by
  obtain ⟨o, n, ho, hc, hd, hs⟩ := x; exact ⟨o, n, k.exact ho (fun _ _ q => by rw [hs] at q; cases q), hc, hd, hs⟩

/-- a def of the text stands -/
def FnAt (G : Heap) (mg : Str → Option Value) (d : Stmt) : Prop :=
  ∃ a o pm code doc, mg (nameOf d) = some (.ref a) ∧ G.get? a = some o ∧ o.data = .func (Calls.docDef (nameOf d) (paramsOf d) (bodyOf d) (scopeOf d) pm code doc) ∧ G.CodeRec code (nameOf d)
/-- the ground -/
structure Gd (G : Heap) (mg mb : Str → Option Value) : Prop where
  g : G.Ns mainGlobals mg
  b : G.Ns builtinsNs mb
  nolimit : G.NoLimit
  builtins : ∀ x : Str, x ≠ "__name__" → mb x = bootBuiltins x
  fn1 : FnAt G mg (stm 1)
  fn2 : FnAt G mg (stm 2)
  fn4 : FnAt G mg (stm 4)
  fn5 : FnAt G mg (stm 5)
  fn7 : FnAt G mg (stm 7)
  fn8 : FnAt G mg (stm 8)
  fn9 : FnAt G mg (stm 9)
  fn10 : FnAt G mg (stm 10)
  free : ∀ x ∈ (["list", "range", "len", "str", "sum", "ValueError"] : List Str), mg x = none

def upd (m : Str → Option Value) (x : Str) (v : Value) : Str → Option Value := fun y => if y = x then some v else m y
theorem upd_same (m : Str → Option Value) (x : Str) (v : Value) : upd m x v x = some v := if_pos rfl
theorem upd_ne (m : Str → Option Value) {x y : Str} (v : Value) (h : y ≠ x) : upd m x v y = m y := if_neg h

theorem Rdy.deeper {A : Around} {G h h₁ : Heap} {l : List Env} {d u : Nat} {env : Env} {L : Addr} {m : Str → Option Value} (R : Rdy A G l h (d + 1) (u + 3)) (k : Kept h h₁) (g : G.StaysIn h₁) (hL : h.get? L = none) (hn : h₁.Ns L m)
    (hf : env.frame = some L) (hk : env.scope.kind = .function) : Rdy (A.deeper env) G (env :: l) h₁ d u := by
  have R' := R.kept k g
  refine ⟨⟨Around.frames_deeper R.below.stack, g, ?_⟩, R.handled, R.guards, ?_, ?_, ?_⟩
  · exact .cons (by rw [hk]; decide) hf hn (stays_none R.below.stays hL) R'.below.frames
  · have := R.depth; show A.depth + 1 + d < 1000; omega
  · have := R.units; show A.units + 3 + u < 9900; omega
  · intro L' hL'
    rw [List.filterMap_cons, hf] at hL'
    rcases List.mem_cons.mp hL' with rfl | q
    · obtain ⟨o, es, ep, ho, hd, _⟩ := hn; exact ⟨o, es, ep, ho, hd⟩
    · exact R'.dicts L' q

/-- a call of a def without cells: its body, from a frame of its own -/
theorem enter {prog : Program} {w : World} {A : Around} {G : Heap} {mg mb : Str → Option Value} {l : List Env} {s : Shared} {d u : Nat} {D : Stmt} {args : List Value} {binds : List (Str × Value)} {Q : Value → Shared → Prop} {v : Value}
    (gd : Gd G mg mb) (R : Rdy A G l s.heap (d + 1) (u + 3)) (fn : FnAt G mg D) (hv : mg (nameOf D) = some v)
    (hbind : ∀ pm code doc, bindArgs (Calls.docDef (nameOf D) (paramsOf D) (bodyOf D) (scopeOf D) pm code doc) ⟨args, []⟩ = pure binds)
    (hloc : ∀ x ∈ binds, (scopeOf D).names.lookup x.1 = some .local)
    (h : ∀ f cd h₁, h₁.Ns s.heap.objs.size (fun x => binds.reverse.lookup x) → Kept s.heap h₁ → Rdy (A.deeper (envOf (nameOf D) (scopeOf D) s.heap.objs.size f cd)) G (envOf (nameOf D) (scopeOf D) s.heap.objs.size f cd :: l) h₁ d u →
      wpAny (model prog w) (A.deeper (envOf (nameOf D) (scopeOf D) s.heap.objs.size f cd)) (execs (bodyOf D) (envOf (nameOf D) (scopeOf D) s.heap.objs.size f cd))
        (fun fl s' => Q (match fl with | .ret v => v | _ => .none) s') (fun _ _ => False) { s with heap := h₁, toks := s.toks + binds.length })
    (hco : (scopeOf D).isCoroutine = false) (hgen : (scopeOf D).isGenerator = false) (hk : (scopeOf D).kind = .function) (hcell : ∀ x ∈ (scopeOf D).names, x.2 ≠ .cell) :
    wpAny (model prog w) A (call v args) Q (fun _ _ => False) s := by
  obtain ⟨a, o, pm, code, doc, hmg, ho, hd, hcd⟩ := fn
  rw [hv] at hmg
  cases hmg
  have gs := R.below.stays
  refine wpAny_call (call_plain_ret (by have := R.depth; show _ < 1000; omega) (gs _ _ ho) hd (gd.nolimit.keeps gs) (hcd.keeps gs) (hbind _ _ _) hloc (fun h₁ F => ?_) hco hgen hk hcell)
  have k : Kept s.heap h₁ := .of_keeps F.keep
  exact h a code h₁ F.ns k (R.deeper k (stays_keeps gs F.keep) (none_size _) F.ns rfl hk)
end Mine

open PySem PySem.W PyProof.Rows
set_option Elab.async false
set_option maxRecDepth 100000
namespace Mine
open PySem.SeqAt PySem.Calls

/-- the first thing of each kind, behind `acc` -/
def ded (acc : List Nat) : List Nat → List Nat
  | [] => acc
  | i :: r => if acc.any (fun j => kind j == kind i) then ded acc r else ded (acc ++ [i]) r

section
variable {prog : Program} {w : World} {A : Around} {E : Value → Shared → Prop} {s : Shared} {env : Env}
theorem name_local {x : Str} {pos : Pos} {m : Str → Option Value} {v : Value} {Q : Value → Shared → Prop} (hk : env.scope.kind = .function) (hl : env.kindOf x = some .local) (hn : s.heap.Ns env.locals m) (hv : m x = some v) (h : Q v s)
    (hd : (x == ("__debug__" : Str)) = false := by decide) : wpAny (model prog w) A (eval (.Name x pos) env) Q E s := wpAny_Name (wpAny_loadName_local hk hl hn hv h) hd
theorem name_glob {G : Heap} {mg mb : Str → Option Value} {x : Str} {pos : Pos} {v : Value} {Q : Value → Shared → Prop} (gd : Gd G mg mb) (gs : G.StaysIn s.heap) (hg : env.globals = mainGlobals) (hk : env.scope.kind = .function) (hx : env.kindOf x = some .globalImplicit)
    (hv : mg x = some v) (h : Q v s) (hd : (x == ("__debug__" : Str)) = false := by decide) : wpAny (model prog w) A (eval (.Name x pos) env) Q E s :=
  Name_function_global hk hx (loadGlobal_global (by rw [hg]; exact gd.g.keeps gs) hv h) hd
theorem name_builtin {G : Heap} {mg mb : Str → Option Value} {x : Str} {pos : Pos} {v : Value} {Q : Value → Shared → Prop} (gd : Gd G mg mb) (gs : G.StaysIn s.heap) (hg : env.globals = mainGlobals) (hb : env.builtins = builtinsNs) (hk : env.scope.kind = .function) (hx : env.kindOf x = some .globalImplicit)
    (hm : x ∈ (["list", "range", "len", "str", "sum", "ValueError"] : List Str)) (hn : x ≠ "__name__") (hv : bootBuiltins x = some v) (h : Q v s) (hd : (x == ("__debug__" : Str)) = false := by decide) : wpAny (model prog w) A (eval (.Name x pos) env) Q E s :=
  Name_function_global hk hx (loadGlobal_builtin (by rw [hg]; exact gd.g.keeps gs) (gd.free x hm) (by rw [hb]; exact gd.b.keeps gs) ((gd.builtins x hn).trans hv) h) hd
theorem store_local {x : Str} {m : Str → Option Value} {v : Value} {Q : Unit → Shared → Prop} (hk : env.scope.kind = .function) (hl : env.kindOf x = some .local) (hn : s.heap.Ns env.locals m)
    (h : ∀ h', h'.Ns env.locals (upd m x v) → Heap.SameBut env.locals s.heap h' → Q () { s with heap := h', toks := s.toks + 1 }) : wpAny (model prog w) A (storeName env x v) Q E s :=
  wpAny_storeName_local hl hn h (by rw [hk]; rfl)
end
theorem ne_ns_iter {h : Heap} {L I a i} {m : Str → Option Value} (x : h.Ns L m) (y : h.IsListIter I a i) : I ≠ L := by
  rintro rfl; obtain ⟨o, es, ep, ho, hd, _⟩ := x; obtain ⟨o', ho', _, hd'⟩ := y; rw [ho] at ho'; cases ho'; rw [hd] at hd'; cases hd'
theorem ne_ns_plain {h : Heap} {L a} {its : Array Value} {m : Str → Option Value} (x : h.Ns L m) (y : PlainL h a its) : a ≠ L := by
  rintro rfl; obtain ⟨o, es, ep, ho, hd, _⟩ := x; obtain ⟨o', n, ho', _, _, hd'⟩ := y; rw [ho] at ho'; cases ho'; rw [hd] at hd'; cases hd'
theorem ne_ns_list {h : Heap} {L a} {its : Array Value} {m : Str → Option Value} (x : h.Ns L m) (y : h.IsList a its) : a ≠ L := by
  rintro rfl; obtain ⟨o, es, ep, ho, hd, _⟩ := x; obtain ⟨o', ho', _, n, hd'⟩ := y; rw [ho] at ho'; cases ho'; rw [hd] at hd'; cases hd'
theorem ne_iter_list {h : Heap} {I b a i} {its : Array Value} (x : h.IsListIter I b i) (y : h.IsList a its) : a ≠ I := by
  rintro rfl; obtain ⟨o, ho, hc, hd⟩ := x; obtain ⟨o', ho', _, n, hd'⟩ := y; rw [ho] at ho'; cases ho'; rw [hd] at hd'; cases hd'
theorem none_ne {h : Heap} {a b : Addr} {o : Obj} (ha : h.get? a = none) (hb : h.get? b = some o) : b ≠ a := by rintro rfl; rw [ha] at hb; cases hb


/-- the state of the loop in `_deduplicate_unhashable`: `k` items are taken -/
structure DedInv (G h0 : Heap) (s : Shared) (L a it out : Addr) (vs : List Value) (is : List Nat) (k : Nat) (s' : Shared) : Prop where
  step : Step G s s'
  ns : ∃ m, s'.heap.Ns L m ∧ m "new_unhashable" = some (.ref out)
  iter : s'.heap.IsListIter it a k
  made : ∃ us, PlainL s'.heap out us.toArray ∧ Things h0 us (ded [] (is.take k)) ∧ us.length ≤ k

theorem ded_snoc : ∀ (l acc : List Nat) (i : Nat), ded acc (l ++ [i]) = if (ded acc l).any (fun j => kind j == kind i) then ded acc l else ded acc l ++ [i]
  | [], acc, i => by simp [ded]
  | j :: r, acc, i => by
    simp only [List.cons_append, ded]
    split
    · exact ded_snoc r acc i
    · exact ded_snoc r _ i

/-- `_deduplicate_unhashable` leaves the first thing of each kind, in order -/
theorem ded_call {prog : Program} {w : World} {A : Around} {G : Heap} {mg mb : Str → Option Value} {l : List Env} {s : Shared} {a : Addr} {vs : List Value} {is : List Nat} {v : Value} {h0 : Heap}
    (gd : Gd G mg mb) (R : Rdy A G l s.heap 1 53) (hl : s.heap.IsList a vs.toArray) (k0 : Kept h0 s.heap) (ht : Things h0 vs is) (hsz : vs.length ≤ 1000) (hv : mg (nameOf (stm 1)) = some v) :
    wpAny (model prog w) A (call v [.ref a]) (fun r s' => Step G s s' ∧ ∃ b us, r = .ref b ∧ s.heap.get? b = none ∧ PlainL s'.heap b us.toArray ∧ Things h0 us (ded [] is) ∧ us.length ≤ 1000) (fun _ _ => False) s := by
  refine enter gd R gd.fn1 hv (binds := [("unhashable_params", .ref a)]) (fun _ _ _ => rfl) (locs (by rfl)) (fun f cd h₁ hn k R₁ => ?_) rfl rfl rfl (by decide)
  have gS := R.below.stays
  have nL : s.heap.get? s.heap.objs.size = none := none_size s.heap
  generalize hA : A.deeper (envOf (nameOf (stm 1)) (scopeOf (stm 1)) s.heap.objs.size f cd) = A₁ at R₁ ⊢
  generalize s.heap.objs.size = L at hn R₁ nL ⊢
  have g₁ := R₁.below.stays
  refine wpAny_execs_cons (wpAny_Assign_Name (List_ (spliced_nil ?_)))
  refine wpAny_newObj_type ?_ (by size_fits)
  dsimp only
  -- the new list
  have nO : s.heap.get? h₁.objs.size = none := k.isNone (none_size _)
  have hout : PlainL (h₁.push { cls := .type "list", data := .seq ([] : List Value).toArray }) h₁.objs.size ([] : List Value).toArray := ⟨_, _, Heap.get?_push_size _ rfl, rfl, rfl, rfl⟩
  have k₂ : Kept s.heap (h₁.push { cls := .type "list", data := .seq ([] : List Value).toArray }) := k.trans (.push _ _)
  have g₂ : G.StaysIn (h₁.push { cls := .type "list", data := .seq ([] : List Value).toArray }) := stays_push g₁
  have hn₂ := hn.push { cls := .type "list", data := .seq ([] : List Value).toArray }
  generalize h₁.objs.size = out at *
  generalize h₁.push { cls := .type "list", data := .seq ([] : List Value).toArray } = h₂ at *
  refine store_local rfl rfl hn₂ fun h₃ hn₃ sb₃ => ?_
  have hne := ne_ns_plain hn₂ hout
  have k₃ : Kept s.heap h₃ := k₂.sameBut nL sb₃
  have g₃ : G.StaysIn h₃ := stays_extBut g₂ (stays_none gS nL) sb₃.extBut
  have hout₃ : PlainL h₃ out ([] : List Value).toArray := hout.extBut sb₃.extBut hne
  -- the loop
  refine wpAny_execs_cons (wpAny_For ?_)
  refine name_local rfl rfl hn₃ (v := .ref a) (by rfl) ?_
  refine wpAny_pyIter_list (k_list k₃ hl) ?_
  dsimp only
  have nI : s.heap.get? h₃.objs.size = none := k₃.isNone (none_size _)
  refine codeAny_forLoop (fun n s' => ∃ j, n + j = vs.length ∧ DedInv G h0 s L a h₃.objs.size out vs is j s') (fun n s' hI => ?_) vs.length ⟨0, by omega, ?_⟩
  · obtain ⟨j, hj, I⟩ := hI
    obtain ⟨m, hm, ho⟩ := I.ns
    obtain ⟨us, hus, hth, hlen⟩ := I.made
    have hla := k_list I.step.kept hl
    cases hx : vs[j]? with
    | none =>
      refine wpAny_pyNext_list_end (by rw [← hA]; exact R.handled) I.iter hla (by simpa using hx) fun h' eb => ?_
      refine wpAny_execs_nil ?_
      show wpAny _ _ (execs _ _) _ _ _
      refine wpAny_execs_cons (wpAny_Return_some ?_)
      have e1 := hm.extBut eb (ne_ns_iter hm I.iter).symm
      refine name_local rfl rfl e1 ho ?_
      have ej : j = vs.length := by have := List.getElem?_eq_none_iff.mp hx; omega
      refine ⟨I.step.set (stays_extBut I.step.ground (stays_none gS nI) eb) (I.step.kept.extBut nI eb), out, us, rfl, nO, hus.extBut eb (ne_iter_list I.iter hus.isList), ?_, by omega⟩
      rw [ej, ht.length, List.take_length] at hth
      exact hth
    | some x =>
      obtain ⟨i, hi, hi10, hti⟩ := ht.get hx
      have hjl : j < vs.length := (List.getElem?_eq_some_iff.mp hx).1
      refine wpAny_pyNext_list_item I.iter hla (by simpa using hx) fun h' hit sb => ?_
      have k' := I.step.kept.sameBut nI sb
      have g' := stays_extBut I.step.ground (stays_none gS nI) sb.extBut
      have hm' := hm.sameBut sb (ne_ns_iter hm I.iter).symm
      have hus' := hus.extBut sb.extBut (ne_iter_list I.iter hus.isList)
      refine wpAny_assign_Name (store_local rfl rfl hm' fun h'' hm'' sb' => ?_)
      have k'' := k'.sameBut nL sb'
      have g'' := stays_extBut g' (stays_none gS nL) sb'.extBut
      have hus'' := hus'.extBut sb'.extBut (ne_ns_plain hm' hus')
      have hit'' := hit.extBut sb'.extBut (ne_ns_iter hm' hit)
      have ho' : upd m "t" x "new_unhashable" = some (.ref out) := (upd_ne m x (by decide)).trans ho
      refine wpAny_execs_cons (wpAny_If (wpAny_isTrue_Compare1 ?_))
      refine name_local rfl rfl hm'' (upd_same ..) ?_
      refine name_local rfl rfl hm'' ho' ?_
      refine notIn_listAt (ofKind h'' (kind i)) hus''.isList ?_ ?_
      · exact things_eqAt (s := { s' with heap := h'', toks := s'.toks + 1 }) (k_things (k0.trans k'') hth) (k_thing (k0.trans k'') hti) (by rw [← hA]; have := R.units; show A.units + 3 + 1 + 10 < 9900; omega)
      rw [List.any_toArray, any_ofKind (k_things (k0.trans k'') hth)]
      refine wpAny_truthy_bool ?_
      have hsn : is.take (j + 1) = is.take j ++ [i] := by rw [List.take_add_one, hi]; rfl
      cases hb : (ded [] (is.take j)).any fun i_1 => kind i_1 == kind i with
      | true =>
        refine wpAny_execs_nil ?_
        refine wpAny_execs_nil ?_
        refine ⟨n - 1, by omega, j + 1, by omega, I.step.set g'' k'', ⟨_, hm'', ho'⟩, hit'', us, hus'', ?_, by omega⟩
        rw [hsn, ded_snoc, hb]; exact hth
      | false =>
        refine wpAny_execs_cons (wpAny_Expr (wpAny_Call_append rfl rfl rfl rfl ?_))
        refine name_local rfl rfl hm'' ho' ⟨out, _, rfl, hus'', ?_⟩
        refine name_local rfl rfl hm'' (upd_same ..) ?_
        refine list_append_plainL hus'' (fun h3 hus3 sb3 => ?_) (by rw [List.size_toArray]; show _ ≤ 16777216; omega)
        refine wpAny_execs_nil ?_
        refine wpAny_execs_nil ?_
        refine ⟨n - 1, by omega, j + 1, by omega, I.step.set (stays_extBut g'' (stays_none gS nO) sb3.extBut) (k''.sameBut nO sb3), ⟨_, hm''.sameBut sb3 (ne_ns_plain hm'' hus'').symm, ho'⟩, hit''.extBut sb3.extBut (ne_iter_list hit'' hus''.isList).symm, us ++ [x], ?_, ?_, ?_⟩
        · simpa using hus3
        · rw [hsn, ded_snoc, hb]
          exact hth.append (.cons hi10 hti .nil)
        · simp; omega
  · refine ⟨?_, ⟨_, hn₃.push _, upd_same ..⟩, ⟨_, Heap.get?_push_size _ rfl, rfl, rfl⟩, [], hout₃.keeps fun _ _ e => Heap.get?_push_of_some _ e, .nil, by simp⟩
    exact ⟨_, _, rfl, stays_push g₃, k₃.trans (.push _ _)⟩
end Mine

open PySem PySem.W PyProof.Rows
set_option Elab.async false
set_option maxRecDepth 100000
namespace Mine
open PySem.SeqAt PySem.Calls

/-- what a turn of a comprehension leaves: all but the block's own objects `X` is kept -/
def After (G : Heap) (X : List Addr) (XI : Heap → Prop) (s₁ s₂ : Shared) : Prop := ∃ h' tk, s₂ = { s₁ with heap := h', toks := tk } ∧ G.StaysIn h' ∧ XI h' ∧ KeptBut X s₁.heap h'

theorem range_filter_succ (t : Nat → Bool) (n : Nat) : (List.range (n + 1)).filter t = (List.range n).filter t ++ (if t n then [n] else []) := by
  rw [List.range_succ, List.filter_append]
  cases h : t n <;> simp [h]

section
variable {prog : Program} {w : World} {A : Around} {G : Heap}

abbrev tests (ifs : List Expr) (env : Env) : Sem Bool := forIn ifs true fun c r => if r = true then do let ok ← isTrue c env (eval c env); pure (ForInStep.yield ok) else pure (ForInStep.yield r)

theorem loop_tests {elt target iter : Expr} {ifs : List Expr} {scope : Scope} {pos : Pos} {it acc : Value} {env : Env} {R : Result → Shared → Prop} {s : Shared} (I : Nat → Shared → Prop)
    (turn : ∀ n s, I n s → wpAny (model prog w) A (pyNext it) (fun r s₁ => match r with
      | none => R (.ok .next) s₁
      | some v => wpAny (model prog w) A (letOwnedTupleGo target it v) (fun _ s₀ => wpAny (model prog w) A (assign target env v) (fun _ s₂ =>
          wpAny (model prog w) A (tests ifs env) (fun ok s₃ =>
            if ok = true then wpAny (model prog w) A (eval elt env) (fun x s₄ =>
              wpAny (model prog w) A (call (.builtin "list.append") [acc, x]) (fun _ s₅ => ∃ m, m < n ∧ I m s₅) (notedBy (model prog w) A env fun e s' => R (.error e) s') s₄) (notedBy (model prog w) A env fun e s' => R (.error e) s') s₃
            else ∃ m, m < n ∧ I m s₃) (notedBy (model prog w) A env fun e s' => R (.error e) s') s₂) (notedBy (model prog w) A env fun e s' => R (.error e) s') s₀) (notedBy (model prog w) A env fun e s' => R (.error e) s') s₁) (notedBy (model prog w) A env fun e s' => R (.error e) s') s)
    (n : Nat) (h : I n s) : codeAny (model prog w) A (.compLoop (.ListComp elt [⟨target, iter, ifs, 0⟩] scope pos) 0 it acc env) R s := by
  refine codeAny_loop rfl I (fun n s hI => ?_) n h
  show wpAny _ A ((compTurn (.ListComp elt [⟨target, iter, ifs, 0⟩] scope pos) 0 it acc env).onRaise (fun x => do noteFrame x env; theTreesLotGoes x)) _ _ s
  refine wpAny_noted ?_
  rw [compTurn_list]
  refine wpAny_bind (wpAny_standAt (wpAny_bind (wpAny_mono (turn n s hI) (fun r s₁ h₁ => ?_) fun _ _ h' => h')))
  cases r with
  | none => exact wpAny_pure h₁
  | some v =>
    refine wpAny_bind (wpAny_mono h₁ (fun _ s₀ h₀ => ?_) fun _ _ h' => h')
    refine wpAny_bind (wpAny_mono h₀ (fun _ s₂ h₂ => wpAny_bind (wpAny_mono h₂ (fun ok s₃ h₃ => ?_) fun _ _ h' => h')) fun _ _ h' => h')
    cases ok with
    | false => exact wpAny_pure ⟨rfl, h₃⟩
    | true => exact wpAny_bind (wpAny_bind (wpAny_mono h₃ (fun x s₄ h₄ => wpAny_bind (wpAny_mono h₄ (fun _ s₅ h₅ => wpAny_pure (wpAny_pure ⟨rfl, h₅⟩)) fun _ _ h' => h')) fun _ _ h' => h'))

/-- the source hands out no tuple of its own -/
def Owns (prog : Program) (w : World) (A : Around) (target : Expr) (I : Addr) (P : Nat → Value → Prop) (St : Nat → Heap → Prop) : Prop :=
  ∀ i v (s₁ : Shared) (Q : Unit → Shared → Prop) (E : Value → Shared → Prop), St (i + 1) s₁.heap → P i v → Q () s₁ → wpAny (model prog w) A (letOwnedTupleGo target (.ref I) v) Q E s₁
theorem owns_name {x : Str} {px : Pos} {I : Addr} {P : Nat → Value → Prop} {St : Nat → Heap → Prop} : Owns prog w A (.Name x px) I P St := fun _ _ _ _ _ _ _ hq => wpAny_pure hq
theorem owns_pair {elts : List Expr} {x1} {pos : Pos} {I a : Addr} {items : Array Value} {P : Nat → Value → Prop} (hP : ∀ i v, P i v → ∃ T, v = .ref T) :
    Owns prog w A (.Tuple elts x1 pos) I P (fun i h => h.IsListIter I a i ∧ h.IsList a items) := fun i v s₁ Q E st hv hq => by
  obtain ⟨T, rfl⟩ := hP i v hv
  exact wpAny_letOwnedTupleGo_listiter st.1 hq

/-- the loop of a comprehension over any walked source -/
theorem comp_loop {elt target iter : Expr} {ifs : List Expr} {scope : Scope} {pos : Pos} {I acc : Addr} {cenv : Env} {fp X : List Addr} {n : Nat} {P : Nat → Value → Prop} {St : Nat → Heap → Prop} {R : Result → Shared → Prop} {s sB : Shared} {XI : Heap → Prop}
    (W : Walks prog w A I fp [I] n P St) (t : Nat → Bool) (Y : Nat → Value → Prop) (hsz : n ≤ 100000)
    (gB : G.StaysIn sB.heap) (nI : sB.heap.get? I = none) (nacc : sB.heap.get? acc = none) (nX : ∀ b ∈ X, sB.heap.get? b = none)
    (nd : ∀ i h, St i h → ∀ b ∈ fp, ∃ o, h.get? b = some o ∧ ∀ es n, o.data ≠ .dict es n)
    (hXf : ∀ b ∈ X, b ∉ fp) (hXa : acc ∉ X) (hIa : acc ∉ fp) (hIf : I ∈ fp)
    (xk : ∀ h h', XI h → (∀ b ∈ X, ∀ o, h.get? b = some o → h'.get? b = some o) → XI h')
    (turn : ∀ i v (s₁ : Shared) (E' : Value → Shared → Prop), i < n → P i v → Step G sB s₁ → XI s₁.heap →
      wpAny (model prog w) A (assign target cenv v) (fun _ s₂ => wpAny (model prog w) A (tests ifs cenv) (fun ok s₃ => ok = t i ∧
        if ok = true then wpAny (model prog w) A (eval elt cenv) (fun y s₄ => Y i y ∧ After G X XI s₁ s₄) E' s₃ else After G X XI s₁ s₃) E' s₂) E' s₁)
    (hst : St 0 s.heap) (hacc : PlainL s.heap acc #[]) (hx : XI s.heap) (hs : Step G sB s)
    (fin : ∀ s' ys, Step G sB s' → XI s'.heap → PlainL s'.heap acc (ys : List Value).toArray → Paired Y ((List.range n).filter t) ys → R (.ok .next) s')
    (ht : Owns prog w A target I P St) :
    codeAny (model prog w) A (.compLoop (.ListComp elt [⟨target, iter, ifs, 0⟩] scope pos) 0 (.ref I) (.ref acc) cenv) R s := by
  have keepSt : ∀ {i : Nat} {h h' : Heap}, St i h → KeptBut X h h' → St i h' := fun {i h h'} st k => W.frame i h h' st fun b hb o e => by
    obtain ⟨o', e', q⟩ := nd i h st b hb
    rw [e] at e'; cases e'
    exact k.exact (fun hm => hXf b hm hb) e q
  have keepAcc : ∀ {ys : Array Value} {h h' : Heap}, PlainL h acc ys → KeptBut X h h' → PlainL h' acc ys := fun {ys h h'} p k => by
    obtain ⟨o, m, e, hc, hd, hdd⟩ := p
    exact ⟨o, m, k.exact hXa e (fun _ _ q => by rw [hdd] at q; cases q), hc, hd, hdd⟩
  refine loop_tests (fun k s' => ∃ i ys, k + i = n + 1 ∧ i ≤ n ∧ Step G sB s' ∧ St i s'.heap ∧ XI s'.heap ∧ PlainL s'.heap acc (ys : List Value).toArray ∧ ys.length ≤ i ∧ Paired Y ((List.range i).filter t) ys)
    (fun k s' hI => ?_) (n + 1) ⟨0, [], by omega, by omega, hs, hst, hx, hacc, by simp, .nil⟩
  obtain ⟨i, ys, hk, hi, S, st, x, pa, hlen, hp⟩ := hI
  by_cases hin : i < n
  · refine W.item i s' _ _ hin st fun v h' tk hv st' hkeep => ?_
    have eb : Heap.ExtBut I s'.heap h' := fun b o hb e => hkeep b o (by simpa using hb) e
    have S₁ : Step G sB { s' with heap := h', toks := tk } := S.set (stays_extBut S.ground (stays_none gB nI) eb) (S.kept.extBut nI eb)
    have x₁ : XI h' := xk _ _ x fun b hb o e => eb b o (fun q => hXf b hb (q ▸ hIf)) e
    have pa₁ : PlainL h' acc ys.toArray := pa.extBut eb (fun q => hIa (q ▸ hIf))
    refine ht i v { s' with heap := h', toks := tk } _ _ st' hv ?_
    refine wpAny_mono (turn i v { s' with heap := h', toks := tk } _ hin hv S₁ x₁) (fun _ s₂ h₂ => wpAny_mono h₂ (fun ok s₃ h₃ => ?_) fun _ _ e => e) fun _ _ e => e
    obtain ⟨hok, h₃⟩ := h₃
    have hr := range_filter_succ t i
    cases hb : ok with
    | false =>
      rw [hb] at hok h₃
      simp only [Bool.false_eq_true, if_false] at h₃ ⊢
      obtain ⟨h'', tk', rfl, g, x₂, kb⟩ := h₃
      rw [← hok] at hr
      exact ⟨k - 1, by omega, i + 1, ys, by omega, by omega, S₁.set g (S₁.kept.thenBut kb nX), keepSt st' kb, x₂, keepAcc pa₁ kb, by omega, by simpa [hr] using hp⟩
    | true =>
      rw [hb] at hok h₃
      simp only [if_true] at h₃ ⊢
      rw [← hok] at hr
      refine wpAny_mono h₃ (fun y s₄ h₄ => ?_) fun _ _ e => e
      obtain ⟨hy, h'', tk', rfl, g, x₂, kb⟩ := h₄
      have pa₂ := keepAcc pa₁ kb
      have st₂ := keepSt st' kb
      have S₂ : Step G sB _ := S₁.set (h' := h'') (tk := tk') g (S₁.kept.thenBut kb nX)
      refine list_append_plainL pa₂ (fun h3 pa3 sb3 => ?_) (by rw [List.size_toArray]; show _ ≤ 16777216; omega)
      refine ⟨k - 1, by omega, i + 1, ys ++ [y], by omega, by omega, S₂.set (stays_extBut g (stays_none gB nacc) sb3.extBut) (S₂.kept.sameBut nacc sb3), W.frame _ _ _ st₂ fun b hb o e => sb3.extBut b o (fun q => hIa (q ▸ hb)) e,
        xk _ _ x₂ fun b hb o e => sb3.extBut b o (fun q => hXa (q ▸ hb)) e, by simpa using pa3, by simp; omega, ?_⟩
      rw [hr]; exact hp.snoc hy
  · obtain rfl : i = n := by omega
    refine W.done s' _ _ st fun h' tk hkeep => ?_
    have eb : Heap.ExtBut I s'.heap h' := fun b o hb e => hkeep b o (by simpa using hb) e
    exact fin _ ys (S.set (stays_extBut S.ground (stays_none gB nI) eb) (S.kept.extBut nI eb)) (xk _ _ x fun b hb o e => eb b o (fun q => hXf b hb (q ▸ hIf)) e) (pa.extBut eb (fun q => hIa (q ▸ hIf))) hp

theorem ne_of_fp {h : Heap} {C : Addr} {m : Str → Option Value} {fp : List Addr} (hn : h.Ns C m) (nd : ∀ b ∈ fp, ∃ o, h.get? b = some o ∧ ∀ es n, o.data ≠ .dict es n) : C ∉ fp := fun hm => by
  obtain ⟨o, es, ep, ho, hd, _⟩ := hn
  obtain ⟨o', ho', q⟩ := nd C hm
  rw [ho] at ho'; cases ho'
  exact q es ep hd

/-- a turn of a comprehension whose block has no cells -/
def Turn (prog : Program) (w : World) (A : Around) (G : Heap) (sB : Shared) (env : Env) (scope : Scope) (cl : List (Str × Addr)) (target elt : Expr) (ifs : List Expr) (n : Nat) (P : Nat → Value → Prop) (t : Nat → Bool) (Y : Nat → Value → Prop) : Prop :=
  ∀ C i v (s₁ : Shared) m (E' : Value → Shared → Prop), sB.heap.get? C = none → i < n → P i v → Step G sB s₁ → s₁.heap.Ns C m →
    wpAny (model prog w) A (assign target (compEnvC scope cl C env) v) (fun _ s₂ => wpAny (model prog w) A (tests ifs (compEnvC scope cl C env)) (fun ok s₃ => ok = t i ∧
      if ok = true then wpAny (model prog w) A (eval elt (compEnvC scope cl C env)) (fun y s₄ => Y i y ∧ After G [C] (fun h => ∃ m, h.Ns C m) s₁ s₄) E' s₃ else After G [C] (fun h => ∃ m, h.Ns C m) s₁ s₃) E' s₂) E' s₁

theorem comp_block {elt target iter : Expr} {ifs : List Expr} {scope : Scope} {cl : List (Str × Addr)} {pos : Pos} {env : Env} {E : Value → Shared → Prop} {s₂ sB : Shared} {I : Addr} {fp : List Addr} {n : Nat} {P : Nat → Value → Prop} {St : Nat → Heap → Prop}
    {RR : Value → Addr → Result → Shared → Prop} (W : Walks prog w A I fp [I] n P St) (t : Nat → Bool) (Y : Nat → Value → Prop) (hsz : n ≤ 100000)
    (gB : G.StaysIn sB.heap) (hs₂ : Step G sB s₂) (nI : sB.heap.get? I = none) (hIf : I ∈ fp) (hst : St 0 s₂.heap)
    (nd : ∀ i h, St i h → ∀ b ∈ fp, ∃ o, h.get? b = some o ∧ ∀ es n, o.data ≠ .dict es n)
    (hcell : ∀ y ∈ scope.names, y.2 ≠ .cell) (hkind : scope.kind = .function)
    (turn : Turn prog w A G sB env scope cl target elt ifs n P t Y)
    (hRR : ∀ D C s' ys, sB.heap.get? D = none → sB.heap.get? C = none → D ≠ C → Step G sB s' → (∃ m, s'.heap.Ns C m) → PlainL s'.heap D (ys : List Value).toArray → Paired Y ((List.range n).filter t) ys → RR (.ref D) C (.ok .next) s')
    (ht : Owns prog w A target I P St) :
    wpAny (model prog w) A (newList []) (fun acc s₃ => wpAny (model prog w) A (newFunctionEnv scope env.globals cl [] env.qual none .none (some env)) (fun cenv s₄ =>
      codeAny (model prog w) A (.compStart (.ListComp elt [⟨target, iter, ifs, 0⟩] scope pos) 0 (.ref I) acc { cenv with scope := relabel scope env }) (RR acc cenv.locals) s₄) E s₃) E s₂ := by
  refine wpAny_newObj_type (wpAny_newFunctionEnv hcell (by intro y hy; simp at hy) (fun h₁ hns₁ hsb₁ => ?_) hkind)
  dsimp only at hns₁ hsb₁ ⊢
  have nD : sB.heap.get? s₂.heap.objs.size = none := hs₂.kept.isNone (none_size _)
  have pD : PlainL (s₂.heap.push { cls := .type "list", dict := none, data := .seq ([] : List Value).toArray }) s₂.heap.objs.size #[] := ⟨_, _, Heap.get?_push_size _ rfl, rfl, rfl, rfl⟩
  have kD : ∀ b o, s₂.heap.get? b = some o → (s₂.heap.push { cls := .type "list", dict := none, data := .seq ([] : List Value).toArray }).get? b = some o := fun b o e => Heap.get?_push_of_some _ e
  have hDfp : s₂.heap.objs.size ∉ fp := fun hm => by obtain ⟨o, ho, _⟩ := nd 0 _ hst _ hm; rw [none_size] at ho; cases ho
  generalize s₂.heap.objs.size = D at *
  generalize s₂.heap.push { cls := .type "list", dict := none, data := .seq ([] : List Value).toArray } = H2 at *
  have nC : sB.heap.get? H2.objs.size = none := (hs₂.kept.trans (.of_keeps kD)).isNone (none_size _)
  have k1 : ∀ b o, H2.get? b = some o → h₁.get? b = some o := fun b o e => hsb₁.extBut b o (Nat.ne_of_lt (Heap.lt_size e)) (Heap.get?_push_of_some _ e)
  generalize H2.objs.size = C at *
  have keep : ∀ b o, s₂.heap.get? b = some o → h₁.get? b = some o := fun b o e => k1 b o (kD b o e)
  have pD₁ : PlainL h₁ D #[] := pD.keeps k1
  have hst₁ : St 0 h₁ := W.frame _ _ _ hst fun b _ o e => keep b o e
  have hCfp : C ∉ fp := ne_of_fp hns₁ (nd 0 h₁ hst₁)
  have hDC : D ≠ C := ne_ns_plain hns₁ pD₁
  have S₁ : Step G sB { s₂ with heap := h₁, toks := s₂.toks + ([] : List (Str × Value)).length } := hs₂.set (stays_keeps hs₂.ground keep) (hs₂.kept.trans (.of_keeps keep))
  have loop : codeAny (model prog w) A (.compLoop (.ListComp elt [⟨target, iter, ifs, 0⟩] scope pos) 0 (.ref I) (.ref D) (compEnvC scope cl C env)) (RR (.ref D) C) { s₂ with heap := h₁, toks := s₂.toks + ([] : List (Str × Value)).length } := by
    refine comp_loop (X := [C]) (XI := fun h => ∃ m, h.Ns C m) W t Y hsz gB nI nD (by simpa using nC) nd (by simpa using hCfp) (by simpa using hDC) hDfp hIf
      (fun h h' ⟨m, hm⟩ k => ⟨m, hm.at' fun o e => k C (by simp) o e⟩) (fun i v s₁ E' hi hv S x => ?_) hst₁ pD₁ ⟨_, hns₁⟩ S₁ (fun s' ys S x p q => hRR D C s' ys nD nC hDC S x p q) ht
    obtain ⟨m, hm⟩ := x
    exact turn C i v s₁ m E' nC hi hv S hm
  exact codeAny_compStart_list loop (W.self 0 _ _ _ hst₁ loop)

theorem nd_list {I a : Addr} {items : Array Value} : ∀ i (h : Heap), (h.IsListIter I a i ∧ h.IsList a items) → ∀ b ∈ [I, a], ∃ o, h.get? b = some o ∧ ∀ es n, o.data ≠ .dict es n := fun i h st b hb => by
  rcases List.mem_cons.mp hb with rfl | hb
  · obtain ⟨o, ho, _, hd⟩ := st.1; exact ⟨o, ho, fun _ _ q => by rw [hd] at q; cases q⟩
  · obtain rfl := List.mem_singleton.mp hb
    obtain ⟨o, ho, _, n, hd⟩ := st.2; exact ⟨o, ho, fun _ _ q => by rw [hd] at q; cases q⟩
theorem nd_range {I : Addr} {a : Int} {n : Nat} : ∀ i (h : Heap), IsRangeIter h I (a + (i : Nat) * 1) ((n : Int) - (i : Nat)) 1 → ∀ b ∈ [I], ∃ o, h.get? b = some o ∧ ∀ es n, o.data ≠ .dict es n := fun i h st b hb => by
  obtain rfl := List.mem_singleton.mp hb
  exact ⟨_, st, fun _ _ q => by cases q⟩

/-- what a comprehension's source is, where its value is known, and what it makes: items `vs` of a list, or 0 .. n - 1 -/
inductive Src (h : Heap) (x : Value) : Nat → (Nat → Value → Prop) → Prop
  | list {a : Addr} {vs : List Value} : x = .ref a → h.IsList a vs.toArray → Src h x vs.length (fun i v => vs[i]? = some v)
  | range {r : Addr} {n : Nat} {t u v : Tok} : x = .ref r → IsRange h r 0 (n : Int) 1 t u v → Src h x n (fun i v => ∃ t, v = .int ((i : Nat) : Int) t)

section
variable {E : Value → Shared → Prop} {env : Env}
theorem comp_src {elt target iter : Expr} {ifs : List Expr} {scope : Scope} {cl : List (Str × Addr)} {pos : Pos} {sB : Shared} {x : Value} {n : Nat} {P : Nat → Value → Prop}
    {RR : Value → Addr → Result → Shared → Prop} (hh : A.handled = none) (S : Src sB.heap x n P) (t : Nat → Bool) (Y : Nat → Value → Prop) (hsz : n ≤ 100000)
    (gB : G.StaysIn sB.heap) (hcell : ∀ y ∈ scope.names, y.2 ≠ .cell) (hkind : scope.kind = .function)
    (htg : (∃ x px, target = .Name x px) ∨ ((∃ elts x1 tp, target = .Tuple elts x1 tp) ∧ ∀ i v, P i v → ∃ T, v = .ref T))
    (turn : Turn prog w A G sB env scope cl target elt ifs n P t Y)
    (hRR : ∀ D C s' ys, sB.heap.get? D = none → sB.heap.get? C = none → D ≠ C → Step G sB s' → (∃ m, s'.heap.Ns C m) → PlainL s'.heap D (ys : List Value).toArray → Paired Y ((List.range n).filter t) ys → RR (.ref D) C (.ok .next) s') :
    wpAny (model prog w) A (pyIter x) (fun it s₂ => wpAny (model prog w) A (newList []) (fun acc s₃ => wpAny (model prog w) A (newFunctionEnv scope env.globals cl [] env.qual none .none (some env)) (fun cenv s₄ =>
      codeAny (model prog w) A (.compStart (.ListComp elt [⟨target, iter, ifs, 0⟩] scope pos) 0 it acc { cenv with scope := relabel scope env }) (RR acc cenv.locals) s₄) E s₃) E s₂) E sB := by
  cases S with
  | @list a vs e hl =>
    subst e
    refine wpAny_pyIter_list hl ?_
    have hne : a ≠ sB.heap.objs.size := by obtain ⟨o, ho, _⟩ := hl; exact Nat.ne_of_lt (Heap.lt_size ho)
    have W := Walks.list (prog := prog) (w := w) hh sB.heap.objs.size a hne vs.toArray
    rw [List.size_toArray] at W
    have W' : Walks prog w A sB.heap.objs.size [sB.heap.objs.size, a] [sB.heap.objs.size] vs.length (fun i v => vs[i]? = some v) (fun i h => h.IsListIter sB.heap.objs.size a i ∧ h.IsList a vs.toArray) := by
      simpa using W
    refine comp_block W' t Y hsz gB (Step.push gB) (none_size _) (by simp) ⟨⟨_, Heap.get?_push_size _ rfl, rfl, rfl⟩, hl.push _⟩ nd_list hcell hkind turn hRR ?_
    rcases htg with ⟨x, px, rfl⟩ | ⟨⟨_, _, _, rfl⟩, hr⟩
    · exact owns_name
    · exact owns_pair hr
  | @range r _ t' u' v' e hr =>
    subst e
    have hz : Builtin.Range.rangeSize 0 (n : Int) 1 = (n : Int) := by rw [rangeSize_one]; split <;> omega
    have hb : (n : Int) < 2 ^ 62 := Int.lt_of_le_of_lt (show (n : Int) ≤ 100000 by omega) (by decide)
    refine wpAny_pyIter_range hr (small_one (by decide) (by decide) (Int.le_trans (show -(2 ^ 62 : Int) ≤ 0 by decide) (by omega)) hb) ?_
    rw [hz]
    have W := PyProof.Rows.LCg.range_walks (prog := prog) (w := w) (I := sB.heap.objs.size) hh 0 n
    have W' : Walks prog w A sB.heap.objs.size [sB.heap.objs.size] [sB.heap.objs.size] n (fun i v => ∃ t, v = .int ((i : Nat) : Int) t) (fun i h => IsRangeIter h sB.heap.objs.size (0 + (i : Nat) * 1) ((n : Int) - (i : Nat)) 1) := by
      simpa using W
    refine comp_block W' t Y hsz gB (Step.push gB) (none_size _) (by simp) ?_ nd_range hcell hkind turn hRR ?_
    · show Heap.get? _ _ = _
      simpa using Heap.get?_push_size (h := sB.heap) (o := { cls := .type "range_iterator", data := .fields #[rawInt 0, rawInt n, rawInt 1] }) rfl
    · rcases htg with ⟨x, px, rfl⟩ | ⟨_, hr'⟩
      · exact owns_name
      · obtain ⟨T, q⟩ := hr' 0 (.int 0 0) ⟨0, rfl⟩; cases q
/-- a comprehension's value -/
theorem comp_value {s : Shared} {elt target iter : Expr} {ifs : List Expr} {scope : Scope} {cl : List (Str × Addr)} {pos : Pos} {Q : Value → Shared → Prop} (hh : A.handled = none)
    (hclos : closureFor scope env = pure cl) (hcell : ∀ y ∈ scope.names, y.2 ≠ .cell) (hkind : scope.kind = .function) (hnames : ∀ y ∈ scope.names, y.2 = .local → scope.names.lookup y.1 = some .local)
    (h : wpAny (model prog w) A (eval iter env) (fun x sB => ∃ n P t Y, Src sB.heap x n P ∧ n ≤ 100000 ∧ G.StaysIn sB.heap ∧
      ((∃ x px, target = .Name x px) ∨ ((∃ elts x1 tp, target = .Tuple elts x1 tp) ∧ ∀ i v, P i v → ∃ T, v = .ref T)) ∧
      Turn prog w A G sB env scope cl target elt ifs n P t Y ∧
      ∀ D s' ys, sB.heap.get? D = none → Step G sB s' → PlainL s'.heap D (ys : List Value).toArray → Paired Y ((List.range n).filter t) ys → Q (.ref D) s') E s)
    (hs : ∀ x, foldedSetIterable iter env x = pure x := by intro _; rfl) :
    wpAny (model prog w) A (eval (.ListComp elt [⟨target, iter, ifs, 0⟩] scope pos) env) Q E s := by
  rw [eval_ListComp]
  refine wpAny_comprehension_free (use := none) rfl hs hclos hkind hnames (wpAny_mono h (fun x sB h₁ => ?_) fun _ _ e => e)
  obtain ⟨n, P, t, Y, S, hn, gB, htg, turn, hQ⟩ := h₁
  refine comp_src (RR := fun acc C => compPost (model prog w) A E none Q acc C) hh S t Y hn gB hcell hkind htg turn ?_
  intro D C s' ys nD nC hDC st x p q
  obtain ⟨m, hm⟩ := x
  refine ⟨m, hm, fun h'' sb => hQ D _ ys nD (st.set (stays_extBut st.ground (stays_none gB nC) sb.extBut) (st.kept.sameBut nC sb)) (p.extBut sb.extBut hDC) q⟩
/-- a comprehension that an assignment to a local name takes -/
theorem comp_assign {s : Shared} {elt target iter : Expr} {ifs : List Expr} {scope : Scope} {cl : List (Str × Addr)} {pos spos : Pos} {y : Str} {py : Pos} {Q : Flow → Shared → Prop} (hh : A.handled = none)
    (hsw : swapsWith (.ListComp elt [⟨target, iter, ifs, 0⟩] scope pos) (some (.Name y py)) spos.line env = pure true)
    (hclos : closureFor scope env = pure cl) (hcell : ∀ y ∈ scope.names, y.2 ≠ .cell) (hkind : scope.kind = .function) (hnames : ∀ y ∈ scope.names, y.2 = .local → scope.names.lookup y.1 = some .local)
    (hy : env.kindOf y = some .local) (hk : env.scope.kind = .function)
    (h : wpAny (model prog w) A (eval iter env) (fun x sB => ∃ n P t Y m, Src sB.heap x n P ∧ n ≤ 100000 ∧ G.StaysIn sB.heap ∧
      ((∃ x px, target = .Name x px) ∨ ((∃ elts x1 tp, target = .Tuple elts x1 tp) ∧ ∀ i v, P i v → ∃ T, v = .ref T)) ∧
      Turn prog w A G sB env scope cl target elt ifs n P t Y ∧ sB.heap.Ns env.locals m ∧
      ∀ D s' ys, sB.heap.get? D = none → After G [env.locals] (fun h => h.Ns env.locals (upd m y (.ref D))) sB s' → PlainL s'.heap D (ys : List Value).toArray → Paired Y ((List.range n).filter t) ys → Q .next s') E s)
    (gL : G.get? env.locals = none) (hs : ∀ x, foldedSetIterable iter env x = pure x := by intro _; rfl) :
    wpAny (model prog w) A (exec (.Assign [.Name y py] (.ListComp elt [⟨target, iter, ifs, 0⟩] scope pos) spos) env) Q E s := by
  rw [exec_Assign_Name_used _ _ _ _ hsw]
  refine wpAny_bind (wpAny_standAt (wpAny_bind ?_))
  show wpAny _ A (do let _ ← comprehension (.ListComp elt [⟨target, iter, ifs, 0⟩] scope pos) scope env _ (newList []) false (eval iter env) (some (assign (.Name y py) env))) _ _ s
  refine wpAny_bind (wpAny_mono (wpAny_comprehension_free (use := some (assign (.Name y py) env)) (Q := fun _ s' => Q .next s') rfl hs hclos hkind hnames
    (wpAny_mono h (fun x sB h₁ => ?_) fun _ _ e => e)) (fun _ s' hq => wpAny_pure (wpAny_pure hq)) fun _ _ e => e)
  obtain ⟨n, P, t, Y, m, S, hn, gB, htg, turn, hm, hQ⟩ := h₁
  refine comp_src (RR := fun acc C => compPost (model prog w) A E (some (assign (.Name y py) env)) (fun _ s' => Q .next s') acc C) hh S t Y hn gB hcell hkind htg turn ?_
  intro D C s' ys nD nC hDC st x p q
  obtain ⟨mC, hmC⟩ := x
  have hmL := k_ns st.kept hm
  have hLC : env.locals ≠ C := by rintro e; obtain ⟨o, _, _, ho, _⟩ := hm; rw [e, nC] at ho; cases ho
  have hLD : env.locals ≠ D := by rintro e; obtain ⟨o, _, _, ho, _⟩ := hm; rw [e, nD] at ho; cases ho
  show wpAny _ A (assign (.Name y py) env (.ref D)) _ _ _
  refine wpAny_assign_Name (store_local hk hy hmL fun h₂ hn₂ sb₂ => ?_)
  refine ⟨mC, hmC.sameBut sb₂ (Ne.symm hLC), fun h₃ sb₃ => hQ D _ ys nD ?_ ((p.extBut sb₂.extBut (Ne.symm hLD)).extBut sb₃.extBut hDC) q⟩
  obtain ⟨h', tk, rfl, g, k⟩ := st
  refine ⟨h₃, _, rfl, stays_extBut (stays_extBut g gL sb₂.extBut) (stays_none gB nC) sb₃.extBut, hn₂.sameBut sb₃ hLC, ?_⟩
  intro b o hb e
  obtain ⟨o', e', l⟩ := k b o e
  exact ⟨o', sb₃.extBut b o' (fun q => by rw [q, nC] at e; cases e) (sb₂.extBut b o' (fun q => hb (by simp [q])) e'), l⟩
end
end
end Mine

open PySem PySem.W PyProof.Rows
set_option Elab.async false
set_option maxRecDepth 100000
namespace Mine
open PySem.SeqAt PySem.Calls

/-- the exception comes back to the frame that it is noted in -/
theorem came_back {M : Model} {A : Around} {E : Value → Shared → Prop} {s : Shared} {B : Heap} {l : List Env} {env : Env} {e L : Addr} {cls a0 : Value} (hf : env.frame = some L) (H : Heap.HeldW B l e cls a0 L s.heap)
    (hE : ∀ h', Heap.HeldW B l e cls a0 L h' → s.heap.UpToSlots h' → E (.ref e) { s with heap := h' }) : cameBackBy M A env E (.ref e) s := by
  obtain ⟨hkb, hen, hl, oe, vs, T, oT, ts, he, hcls, hd, h1, hnT, hTe, hT, hdT, h3⟩ := H
  have hsz3 : 3 < ts.size := (Array.getElem?_eq_some_iff.mp h3).1
  unfold cameBackBy
  refine wpAny_bind (wpAny_field he hd h1 ?_)
  rw [if_neg (show ¬ ((Value.ref T == Value.none) = true) from by simp)]
  unfold setFlight
  refine wpAny_bind (wpAny_field he hd h1 ?_)
  rw [if_pos (show (Value.ref T != Value.none) = true from by simp)]
  rw [hf]
  have other : ∀ b, b ≠ T → (s.heap.update T (Obj.mapFields (·.setIfInBounds 3 ((some L : Option Addr).elim Value.none fun f => rawInt f)))).get? b = s.heap.get? b :=
    fun b hb => Heap.get?_update_other _ _ (Ne.symm hb)
  have noRecord : ∀ b o, s.heap.get? b = some o → (∀ vs, o.data ≠ .fields vs) → b ≠ T := fun b o hb hnf q => by
    rw [q, hT] at hb; injection hb with hb; subst hb; exact hnf ts hdT
  refine wpAny_setField hT hdT hsz3 (hE _ ⟨fun b o hbo => (other b fun q => by rw [q, hnT] at hbo; cases hbo).trans (hkb b o hbo), hen,
    hl.of_keeps fun b o hb hnf => ⟨o, (other b (noRecord b o hb hnf)).trans hb, rfl⟩, ?_⟩ fun b o hb hnf => ⟨o.slots, (other b (noRecord b o hb hnf)).trans hb⟩)
  exact ⟨oe, vs, T, _, _, (other e (Ne.symm hTe)).trans he, hcls, hd, h1, hnT, hTe, Heap.get?_update_self _ hT (Obj.isFreed_of_fields (Obj.data_mapFields hdT _)), Obj.data_mapFields hdT _, by simp [hsz3]⟩

/-- the first frame that an exception is noted in -/
theorem note_first {M : Model} {A : Around} {E : Value → Shared → Prop} {s : Shared} {base : Heap} {env : Env} {outer : List Env} {L e : Addr} {oe : Obj} {vs : Array Value} {a0 : Value} {Q : Unit → Shared → Prop}
    (hfr : A.frames = some (env :: outer)) (hl : s.heap.FunFrames base (env :: outer)) (hf : env.frame = some L)
    (he : s.heap.get? e = some oe) (hkb : base.StaysIn s.heap) (hen : base.get? e = none) (hd : oe.data = .fields vs) (h1 : vs[1]? = some .none) (h0 : vs[0]? = some a0)
    (h : ∀ h', Heap.NotedW base (env :: outer) e oe.cls a0 (rawInt L) s.heap h' → Q () { s with heap := h' }) : wpAny M A (noteFrame (.ref e) env) Q E s := by
  unfold noteFrame
  simp only [hf]
  refine wpAny_bind (wpAny_field he hd h1 ?_)
  rw [if_neg (by decide)]
  exact wpAny_entryW hfr hl hf he hkb hen hd (Array.getElem?_eq_some_iff.mp h1).1 h0 h

/-- a ValueError raised in the frame's own try, whose one clause takes it -/
theorem caught {prog : Program} {w : World} {A : Around} {E : Value → Shared → Prop} {Q : Flow → Shared → Prop} {G h : Heap} {s' : Shared} {env : Env} {outer : List Env} {e L : Addr} {t : Expr} {b₀ : Stmt} {suite : List Stmt} {pos : Pos}
    (hfr : A.frames = some (env :: outer)) (hf : env.frame = some L) (hfun : h.FunFrames G (env :: outer)) (gs : G.StaysIn h) (hdicts : ∀ b ∈ (env :: outer).filterMap (·.frame), ∃ o es n, h.get? b = some o ∧ o.data = .dict es n)
    (hx : Heap.NewExc h s'.heap e "ValueError")
    (hname : ∀ h₅ E'' (Q' : Value → Shared → Prop), G.StaysIn h₅ → Q' (.type "ValueError") { s' with heap := h₅ } → wpAny (model prog w) (A.mark (some (.ref e))) (eval t env) Q' E'' { s' with heap := h₅ })
    (hok : ∀ h₆ E'', G.StaysIn h₆ → Kept h h₆ → wpAny (model prog w) (A.mark (some (.ref e))) (execs (b₀ :: suite) env) Q E'' { s' with heap := h₆ }) :
    notedBy (model prog w) A env (fun e s₀ => cameBackBy (model prog w) A env (fun e s₁ => wpAny (model prog w) A (noteFrame e env) (fun _ s₂ => wpAny (model prog w) A (setFlight e none) (fun _ s₃ =>
      wpAny (model prog w) A (handleBy e env [.ExceptHandler (some t) none (b₀ :: suite) pos]) Q E s₃) E s₂) E s₁) e s₀) (.ref e) s' := by
  obtain ⟨ob, tt, hob, hobc, hobd⟩ := hx.there
  have hin : ∀ v ∈ (env :: outer), ∀ b, v.frame = some b → b ∈ (env :: outer).filterMap (·.frame) := fun v hv b hb => List.mem_filterMap.mpr ⟨v, hv, hb⟩
  generalize hB : hideAll h ((env :: outer).filterMap (·.frame)) = B
  have bs : B.StaysIn s'.heap := fun b o q => hx.keeps b o (of_hideAll _ (hB ▸ q))
  have hen : B.get? e = none := by
    cases q : B.get? e with
    | none => rfl
    | some o => have := of_hideAll _ (hB ▸ q : (hideAll h _).get? e = some o); rw [hx.new] at this; cases this
  have hfB : s'.heap.FunFrames B (env :: outer) := (hB ▸ funFrames_hide hfun hin : h.FunFrames B (env :: outer)).of_keeps fun b o q _ => ⟨o, hx.keeps b o q, rfl⟩
  have gB : ∀ {h₆ : Heap}, B.StaysIn h₆ → G.StaysIn h₆ := fun {h₆} q b o q' => q b o (hB ▸ hideAll_get _ (gs b o q') fun hm => by rw [(hfun.mem hm).1] at q'; cases q')
  have kB : ∀ {h₆ : Heap}, B.StaysIn h₆ → s'.heap.UpToSlots h₆ → Kept h h₆ := fun {h₆} q u b o q' => by
    by_cases hm : b ∈ (env :: outer).filterMap (·.frame)
    · obtain ⟨o', es, n, e', hd⟩ := hdicts b hm
      rw [q'] at e'; cases e'
      obtain ⟨sl, r⟩ := u b o (hx.keeps b o q') fun vs z => by rw [hd] at z; cases z
      exact ⟨_, r, sl, rfl, fun z => absurd hd (z es n)⟩
    · exact ⟨o, q b o (hB ▸ hideAll_get _ q' hm), .refl o⟩
  unfold notedBy
  refine note_first hfr hfB hf hob bs hen hobd (by rfl) (a0 := tt) (by rfl) fun h₁ hN => ?_
  obtain ⟨n1, n2, n3, n4⟩ := hN
  rw [hobc] at n3
  refine came_back hf (s := { s' with heap := h₁ }) ⟨n1, hen, n2, n3⟩ fun h₂ H₂ u₂ => ?_
  show wpAny _ _ (noteFrame (.ref e) env) _ _ _
  refine wpAny_noteFrame_againW hf (s := { s' with heap := h₂ }) H₂.2.2.2 ?_
  refine wpAny_landsW (s := { s' with heap := h₂ }) H₂ fun h₃ F₃ u₃ => ?_
  refine wpAny_handleBy_builtin (X := "ValueError") (T := "ValueError") (b := true) PySem.F.isExc_ValueError PySem.F.notTuple_ValueError (by rw [isSubtype_type]; kernel_rfl) (hname h₃ _ _ (gB F₃.1) ⟨rfl, F₃.there, ?_⟩)
  simp only [if_true]
  refine lands_againW (s := { s' with heap := h₃ }) F₃ fun h₄ F₄ u₄ => ?_
  have u : s'.heap.UpToSlots h₄ := (((show s'.heap.UpToSlots h₁ from n4).trans u₂).trans u₃).trans u₄
  exact hok h₄ _ (gB F₄.1) (kB F₄.1 u)
end Mine

open PySem PySem.W PyProof.Rows
set_option Elab.async false
set_option maxRecDepth 100000
namespace Mine
open PySem.SeqAt PySem.Calls

/-- a call of a def of the text, with one argument or more -/
theorem own_call {prog : Program} {w : World} {A : Around} {E : Value → Shared → Prop} {s : Shared} {env : Env} {G : Heap} {mg mb : Str → Option Value} {D : Stmt} {x : Str} {p pos : Pos} {e : Expr} {rest : List Expr} {Q : Value → Shared → Prop}
    (gd : Gd G mg mb) (fn : FnAt G mg D) (hx : x = nameOf D) (gs : G.StaysIn s.heap) (hg : env.globals = mainGlobals) (hk : env.scope.kind = .function) (hkx : env.kindOf x = some .globalImplicit)
    (h : ∀ v, mg (nameOf D) = some v → wpAny (model prog w) A (spliced (backTo pos (starEach (e :: rest) env))) (fun vs s₁ => G.StaysIn s₁.heap ∧ wpAny (model prog w) A (call v vs) Q E s₁) E s)
    (hd : (x == ("__debug__" : Str)) = false := by decide) (he : starEach (e :: rest) env = (false, eval e env) :: starEach rest env := by rfl) :
    wpAny (model prog w) A (eval (.Call (.Name x p) (e :: rest) [] pos) env) Q E s := by
  obtain ⟨a, o, pm, code, doc, hmg, ho, hod, _⟩ := fn
  refine Call_ (name_glob gd gs hg hk hkx (v := .ref a) (hx ▸ hmg) ?_ hd)
  refine callWith_def hod (wpAny_mono (h _ hmg) (fun vs s₁ h₁ => ⟨h₁.1 _ _ ho, h₁.2⟩) fun _ _ e => e) he
theorem own_call0 {prog : Program} {w : World} {A : Around} {E : Value → Shared → Prop} {s : Shared} {env : Env} {G : Heap} {mg mb : Str → Option Value} {D : Stmt} {x : Str} {p pos : Pos} {Q : Value → Shared → Prop}
    (gd : Gd G mg mb) (fn : FnAt G mg D) (hx : x = nameOf D) (gs : G.StaysIn s.heap) (hg : env.globals = mainGlobals) (hk : env.scope.kind = .function) (hkx : env.kindOf x = some .globalImplicit)
    (h : ∀ v, mg (nameOf D) = some v → wpAny (model prog w) A (call v []) Q E s)
    (hd : (x == ("__debug__" : Str)) = false := by decide) :
    wpAny (model prog w) A (eval (.Call (.Name x p) [] [] pos) env) Q E s := by
  obtain ⟨a, o, pm, code, doc, hmg, ho, hod, _⟩ := fn
  refine Call_ (name_glob gd gs hg hk hkx (v := .ref a) (hx ▸ hmg) ?_ hd)
  exact callWith_function (o := o) (fd := _) (PySem.evalArgs_none ⟨⟨gs _ _ ho, hod⟩, by simpa using h _ hmg⟩)

/-- take each of the first list's kinds out of the second -/
def rem : List Nat → List Nat → Option (List Nat)
  | [], t => some t
  | i :: r, t => match t.findIdx? (fun j => kind j == kind i) with
    | none => none
    | some j => rem r (t.eraseIdx j)
def cmp (is js : List Nat) : Bool := match rem (ded [] is) (ded [] js) with
  | none => false
  | some t => t.isEmpty

theorem rem_snoc : ∀ (l t : List Nat) (i : Nat), rem (l ++ [i]) t = (rem l t).bind fun t' => (t'.findIdx? (fun j => kind j == kind i)).map fun j => t'.eraseIdx j
  | [], t, i => by
    simp only [List.nil_append, rem, Option.bind_some]
    cases t.findIdx? (fun j => kind j == kind i) <;> rfl
  | j :: r, t, i => by
    simp only [List.cons_append, rem]
    cases t.findIdx? (fun k => kind k == kind j) with
    | none => rfl
    | some k => exact rem_snoc r _ i
theorem rem_none_append : ∀ (l l' t : List Nat), rem l t = none → rem (l ++ l') t = none
  | [], _, _, h => by simp [rem] at h
  | j :: r, l', t, h => by
    simp only [List.cons_append, rem] at h ⊢
    cases hf : t.findIdx? (fun k => kind k == kind j) with
    | none => rfl
    | some k => rw [hf] at h; exact rem_none_append r l' _ h

structure CmpInv (G : Heap) (s : Shared) (L a it T : Addr) (F S : List Nat) (k : Nat) (s' : Shared) : Prop where
  step : Step G s s'
  ns : ∃ m, s'.heap.Ns L m ∧ m "t" = some (.ref T)
  iter : s'.heap.IsListIter it a k
  made : ∃ us ts, PlainL s'.heap T us.toArray ∧ Things s.heap us ts ∧ us.length ≤ 1000 ∧ rem (F.take k) S = some ts

theorem things_findIdx {h : Heap} {us : List Value} {ts : List Nat} (x : Things h us ts) (k : Nat) : us.findIdx? (ofKind h k) = ts.findIdx? (fun j => kind j == k) := by
  induction x with
  | nil => rfl
  | cons hi t _ ih => rw [List.findIdx?_cons, List.findIdx?_cons, ofKind_eq t, ih]
theorem things_eraseIdx {h : Heap} {us : List Value} {ts : List Nat} (x : Things h us ts) : ∀ j, Things h (us.eraseIdx j) (ts.eraseIdx j) := by
  induction x with
  | nil => intro j; simp; exact .nil
  | cons hi t xs ih =>
    intro j
    cases j with
    | zero => simpa using xs
    | succ j => simpa using .cons hi t (ih j)
theorem ded_length : ∀ (l acc : List Nat), (ded acc l).length ≤ acc.length + l.length
  | [], acc => by simp [ded]
  | i :: r, acc => by
    simp only [ded]
    split
    · have := ded_length r acc; simp; omega
    · have := ded_length r (acc ++ [i]); simp at this ⊢; omega

section
variable {prog : Program} {w : World} {A : Around} {E : Value → Shared → Prop} {s : Shared} {T : Addr} {xs : List Value} {ts : List Nat} {x : Value} {i : Nat} {Q : Value → Shared → Prop}
theorem remove_hit {j : Nat} (p : PlainL s.heap T xs.toArray) (tx : Things s.heap xs ts) (ti : Thing s.heap x i) (hf : ts.findIdx? (fun k => kind k == kind i) = some j) (hlen : xs.length ≤ 1000) (hu : A.units + 20 < 9900)
    (hQ : ∀ h', PlainL h' T (xs.eraseIdx j).toArray → Heap.SameBut T s.heap h' → Q .none { s with heap := h' }) : wpAny (model prog w) A (call (.builtin "list.remove") [.ref T, x]) Q E s := by
  obtain ⟨⟨cls, dd, data, sl⟩, n, ho, hc, hdn, hd⟩ := id p
  simp only at hc hd hdn
  subst hc hd hdn
  rw [← things_findIdx tx] at hf
  obtain ⟨hj, hit, hno⟩ := List.findIdx?_eq_some_iff_getElem.mp hf
  refine call_meets F.slot_list_remove ⟨_, ho, rfl⟩ F.entry_list_remove (F.args_list_remove_2 _ _)
    (list_removeAt T xs.toArray n none sl x (ofKind s.heap (kind i)) j (by simpa using hj) (by simpa using hit) (fun m hm hlt => ?_) (by rw [List.size_toArray]; show _ ≤ 16777216; omega)) ⟨ho, things_eqAt tx ti (by show A.units + 1 + 10 < 9900; omega), ?_⟩
  · have := hno m hlt
    simpa using this
  · refine hQ _ ?_ (Heap.SameBut.update ..)
    obtain ⟨n', hd'⟩ := Obj.data_mapSeq (o := { cls := .type "list", dict := none, data := .seq xs.toArray n, slots := sl }) rfl (fun xs => xs.eraseIdxIfInBounds j)
    refine ⟨_, n', Heap.get?_update_self _ ho (Obj.isFreed_of_seq hd'), Obj.cls_mapSeq .., rfl, ?_⟩
    rw [hd']
    simp [Array.eraseIdxIfInBounds, hj]
theorem remove_miss (p : PlainL s.heap T xs.toArray) (tx : Things s.heap xs ts) (ti : Thing s.heap x i) (hf : ts.findIdx? (fun k => kind k == kind i) = none) (hu : A.units + 20 < 9900) (hh : A.handled = none)
    (hE : ∀ h' tk e, Heap.NewExc s.heap h' e "ValueError" → E (.ref e) { s with heap := h', toks := tk }) : wpAny (model prog w) A (call (.builtin "list.remove") [.ref T, x]) Q E s := by
  obtain ⟨⟨cls, dd, data, sl⟩, n, ho, hc, hdn, hd⟩ := id p
  simp only at hc hd hdn
  subst hc hd hdn
  rw [← things_findIdx tx] at hf
  have hno := List.findIdx?_eq_none_iff.mp hf
  refine call_meets F.slot_list_remove ⟨_, ho, rfl⟩ F.entry_list_remove (F.args_list_remove_2 _ _)
    (list_remove_noneAt T xs.toArray n none sl x (ofKind s.heap (kind i)) (fun m hm => ?_)) ⟨ho, things_eqAt tx ti (by show A.units + 1 + 10 < 9900; omega), hh, fun h' tk e q => hE h' tk e q⟩
  have := hno xs[m] (List.getElem_mem _)
  simpa using this
end

/-- `_compare_args_orderless` says whether the two have the same kinds -/
theorem cmp_call {prog : Program} {w : World} {A : Around} {G : Heap} {mg mb : Str → Option Value} {l : List Env} {s : Shared} {a b : Addr} {vs us : List Value} {is js : List Nat} {v : Value}
    (gd : Gd G mg mb) (R : Rdy A G l s.heap 2 60) (ha : s.heap.IsList a vs.toArray) (hb : s.heap.IsList b us.toArray) (hvs : Things s.heap vs is) (hus : Things s.heap us js) (hz : vs.length ≤ 1000) (hz' : us.length ≤ 1000)
    (hv : mg (nameOf (stm 2)) = some v) :
    wpAny (model prog w) A (call v [.ref a, .ref b]) (fun r s' => Step G s s' ∧ r = .bool (cmp is js)) (fun _ _ => False) s := by
  refine enter (d := 1) (u := 57) gd R gd.fn2 hv (binds := [("first_args", .ref a), ("second_args", .ref b)]) (fun _ _ _ => rfl) (locs (by rfl)) (fun f cd h₁ hn k R₁ => ?_) rfl rfl rfl (by decide)
  have gS := R.below.stays
  have nL : s.heap.get? s.heap.objs.size = none := none_size s.heap
  generalize s.heap.objs.size = L at hn R₁ nL ⊢
  generalize hA : A.deeper (envOf (nameOf (stm 2)) (scopeOf (stm 2)) L f cd) = A₁ at R₁ ⊢
  have g₁ := R₁.below.stays
  have gL := stays_none gS nL
  have S₁ : Step G s { s with heap := h₁, toks := s.toks + [((("first_args" : Str), Value.ref a)), ("second_args", .ref b)].length } := .of g₁ k
  -- first_unhashable
  refine wpAny_execs_cons (wpAny_Assign_Name ?_)
  refine own_call gd gd.fn1 rfl g₁ rfl rfl rfl fun v₁ hv₁ => args_cons (name_local rfl rfl hn (v := .ref a) (by rfl) (args_nil ⟨g₁, ?_⟩))
  have rdy : ∀ {h' : Heap} {m' : Str → Option Value}, Kept s.heap h' → G.StaysIn h' → h'.Ns L m' → Rdy A₁ G (envOf (nameOf (stm 2)) (scopeOf (stm 2)) L f cd :: l) h' 1 57 := fun k g hn => hA ▸ R.deeper k g nL hn rfl rfl
  refine wpAny_mono (ded_call gd ((rdy k g₁ hn).less (by omega) (by omega)) (k_list k ha) k hvs hz hv₁) (fun r s₂ h₂ => ?_) fun _ _ e => e.elim
  obtain ⟨st₂, F1, fs, rfl, nF1, pF1, tF1, lF1⟩ := h₂
  have S₂ := S₁.trans st₂
  have nF1' : s.heap.get? F1 = none := k.isNone nF1
  refine store_local rfl rfl (k_ns st₂.kept hn) fun h₃ hn₃ sb₃ => ?_
  have S₃ : Step G s { s₂ with heap := h₃, toks := s₂.toks + 1 } := S₂.set (stays_extBut S₂.ground gL sb₃.extBut) (S₂.kept.sameBut nL sb₃)
  have pF1₃ : PlainL h₃ F1 fs.toArray := pF1.extBut sb₃.extBut (ne_ns_plain (k_ns st₂.kept hn) pF1)
  -- second_unhashable
  refine wpAny_execs_cons (wpAny_Assign_Name ?_)
  refine own_call gd gd.fn1 rfl S₃.ground rfl rfl rfl fun v₂ hv₂ => args_cons (name_local rfl rfl hn₃ (v := .ref b) (by rfl) (args_nil ⟨S₃.ground, ?_⟩))
  refine wpAny_mono (ded_call gd ((rdy S₃.kept S₃.ground hn₃).less (by omega) (by omega)) (k_list S₃.kept hb) S₃.kept hus hz' hv₂) (fun r s₄ h₄ => ?_) fun _ _ e => e.elim
  obtain ⟨st₄, F2, gs, rfl, nF2, pF2, tF2, lF2⟩ := h₄
  have S₄ := S₃.trans st₄
  have nF2' : s.heap.get? F2 = none := S₃.kept.isNone nF2
  have hn₄ := k_ns st₄.kept hn₃
  have pF1₄ := k_plainL st₄.kept pF1₃
  refine store_local rfl rfl hn₄ fun h₅ hn₅ sb₅ => ?_
  have S₅ : Step G s { s₄ with heap := h₅, toks := s₄.toks + 1 } := S₄.set (stays_extBut S₄.ground gL sb₅.extBut) (S₄.kept.sameBut nL sb₅)
  have pF1₅ : PlainL h₅ F1 fs.toArray := pF1₄.extBut sb₅.extBut (ne_ns_plain hn₄ pF1₄)
  have pF2₅ : PlainL h₅ F2 gs.toArray := pF2.extBut sb₅.extBut (ne_ns_plain hn₄ pF2)
  -- t = list(second_unhashable)
  refine wpAny_execs_cons (wpAny_Assign_Name ?_)
  refine Call_ (name_builtin gd S₅.ground rfl rfl rfl rfl (by decide) (by decide) (v := .type "list") PyProof.Rows.Boot.«list» ?_)
  refine callWith_type1 (args_cons (name_local rfl rfl hn₅ (v := .ref F2) (by rfl) (args_nil ?_)))
  obtain ⟨oF2, cF2, eF2, hcF2, hdnF2, hdF2⟩ := id pF2₅
  refine call_list_seq (s := { s₄ with heap := h₅, toks := s₄.toks + 1 }) F2 (.inl rfl) eF2 hcF2 hdF2 (fun h₆ c' hk₆ hT => ?_) (by rw [List.size_toArray]; show _ ≤ 16777216; omega)
  dsimp only at hk₆ hT ⊢
  have nT : s.heap.get? h₅.objs.size = none := S₅.kept.isNone (none_size _)
  have pT₆ : PlainL h₆ h₅.objs.size gs.toArray := ⟨_, _, hT, rfl, rfl, rfl⟩
  have hFT : F1 ≠ h₅.objs.size := by obtain ⟨o, _, e, _⟩ := pF1₅; exact Nat.ne_of_lt (Heap.lt_size e)
  generalize h₅.objs.size = T at nT pT₆ hFT ⊢
  have S₆ : Step G s { s₄ with heap := h₆, toks := s₄.toks + 1 } := S₅.set (stays_keeps S₅.ground hk₆) (S₅.kept.trans (.of_keeps hk₆))
  have hn₆ := hn₅.keeps hk₆
  have pF1₆ := pF1₅.keeps hk₆
  refine store_local rfl rfl hn₆ fun h₇ hn₇ sb₇ => ?_
  have S₇ : Step G s { s₄ with heap := h₇, toks := s₄.toks + 1 + 1 } := S₆.set (stays_extBut S₆.ground gL sb₇.extBut) (S₆.kept.sameBut nL sb₇)
  have pF1₇ : PlainL h₇ F1 fs.toArray := pF1₆.extBut sb₇.extBut (ne_ns_plain hn₆ pF1₆)
  have pT₇ : PlainL h₇ T gs.toArray := pT₆.extBut sb₇.extBut (ne_ns_plain hn₆ pT₆)
  -- the try
  refine wpAny_execs_cons (wpAny_Try_except ?_)
  refine wpAny_execs_cons (wpAny_For ?_)
  refine name_local rfl rfl hn₇ (v := .ref F1) (by rfl) ?_
  refine wpAny_pyIter_list pF1₇.isList ?_
  dsimp only
  have nI : s.heap.get? h₇.objs.size = none := S₇.kept.isNone (none_size _)
  refine codeAny_forLoop (fun n s' => ∃ j, n + j = fs.length ∧ PlainL s'.heap F1 fs.toArray ∧ CmpInv G s L F1 h₇.objs.size T (ded [] is) (ded [] js) j s') (fun n s' hI => ?_) fs.length ⟨0, by omega, ?_, ?_⟩
  · obtain ⟨j, hj, pF, I⟩ := hI
    obtain ⟨m, hm, ho⟩ := I.ns
    obtain ⟨xs, ts, hxs, hts, hlen, hrem⟩ := I.made
    cases hx : fs[j]? with
    | none =>
      refine wpAny_pyNext_list_end (by rw [← hA]; exact R.handled) I.iter pF.isList (by simpa using hx) fun h' eb => ?_
      refine wpAny_execs_nil ?_
      refine wpAny_execs_nil ?_
      refine wpAny_execs_nil ?_
      show wpAny _ _ (execs _ _) _ _ _
      refine wpAny_execs_cons (wpAny_Return_some (wpAny_UnaryOp ?_))
      have e1 := hm.extBut eb (ne_ns_iter hm I.iter).symm
      refine name_local rfl rfl e1 ho ?_
      have hxs' := hxs.extBut eb (ne_iter_list I.iter hxs.isList)
      refine not_of (wpAny_truthy_list hxs'.isList ?_ ?_)
      · rw [List.size_toArray]; exact Int.lt_of_le_of_lt (show (xs.length : Int) ≤ 1000 by omega) (by decide)
      · have S' : Step G s { s' with heap := h' } := I.step.set (stays_extBut I.step.ground (stays_none gS nI) eb) (I.step.kept.extBut nI eb)
        refine ⟨S'.trans (.tok S'.ground), ?_⟩
        have ej : j = (ded [] is).length := by have := List.getElem?_eq_none_iff.mp hx; have := tF1.length; omega
        rw [ej, List.take_length] at hrem
        unfold cmp
        rw [hrem]
        have := hts.length
        cases xs <;> cases ts <;> simp_all
    | some x =>
      obtain ⟨i, hi, hi10, hti⟩ := tF1.get hx
      have hjl : j < fs.length := (List.getElem?_eq_some_iff.mp hx).1
      refine wpAny_pyNext_list_item I.iter pF.isList (by simpa using hx) fun h' hit sb => ?_
      have k' := I.step.kept.sameBut nI sb
      have g' := stays_extBut I.step.ground (stays_none gS nI) sb.extBut
      have hm' := hm.sameBut sb (ne_ns_iter hm I.iter).symm
      have hxs' := hxs.extBut sb.extBut (ne_iter_list I.iter hxs.isList)
      have pF' := pF.extBut sb.extBut (ne_iter_list I.iter pF.isList)
      refine wpAny_assign_Name (store_local rfl rfl hm' fun h'' hm'' sb' => ?_)
      have k'' := k'.sameBut nL sb'
      have g'' := stays_extBut g' gL sb'.extBut
      have hxs'' := hxs'.extBut sb'.extBut (ne_ns_plain hm' hxs')
      have pF'' := pF'.extBut sb'.extBut (ne_ns_plain hm' pF')
      have hit'' := hit.extBut sb'.extBut (ne_ns_iter hm' hit)
      have ho' : upd m "elem" x "t" = some (.ref T) := (upd_ne m x (by decide)).trans ho
      refine wpAny_execs_cons (wpAny_Expr (wpAny_Call_method rfl rfl rfl F.plainAttrs_list F.slot_list_remove F.type_list_remove ?_))
      refine name_local rfl rfl hm'' ho' ⟨hxs''.isList.typeIs, fun a' e => ?_, ?_⟩
      · cases e; obtain ⟨o, _, e', _, d', _⟩ := hxs''; exact ⟨o, e', d'⟩
      refine callWith_method1 (args_cons (name_local rfl rfl hm'' (upd_same ..) (args_nil ?_)))
      have hsn : (ded [] is).take (j + 1) = (ded [] is).take j ++ [i] := by rw [List.take_add_one, hi]; rfl
      have hu : A₁.units + 20 < 9900 := by rw [← hA]; have := R.units; show A.units + 3 + 20 < 9900; omega
      have hh : A₁.handled = none := by rw [← hA]; exact R.handled
      show wpAny _ _ (call (.builtin "list.remove") [.ref T, x]) _ _ _
      cases hfi : ts.findIdx? (fun k => kind k == kind i) with
      | some p =>
        refine remove_hit (s := { s' with heap := h'', toks := s'.toks + 1 }) hxs'' (k_things k'' hts) (k_thing k'' hti) hfi hlen hu fun h3 hxs3 sb3 => ?_
        refine wpAny_execs_nil ?_
        refine ⟨n - 1, by omega, j + 1, by omega, pF''.extBut sb3.extBut hFT, I.step.set (stays_extBut g'' (stays_none gS nT) sb3.extBut) (k''.sameBut nT sb3), ⟨_, hm''.sameBut sb3 (ne_ns_plain hm'' hxs'').symm, ho'⟩, hit''.extBut sb3.extBut (ne_iter_list hit'' hxs''.isList).symm,
          xs.eraseIdx p, ts.eraseIdx p, hxs3, things_eraseIdx hts p, ?_, ?_⟩
        · have := List.length_eraseIdx_le xs p; omega
        · rw [hsn, rem_snoc, hrem]; simp [hfi]
      | none =>
        refine remove_miss (s := { s' with heap := h'', toks := s'.toks + 1 }) hxs'' (k_things k'' hts) (k_thing k'' hti) hfi hu hh fun h3 tk e hx3 => ?_
        have R3 := rdy k'' g'' hm''
        refine caught (G := G) (h := h'') R3.below.stack rfl R3.below.frames g'' R3.dicts hx3 (fun h₅ E'' Q' g₅ q => ?_) (fun h₆ E'' g₆ k₆ => ?_)
        · exact name_builtin gd g₅ rfl rfl rfl rfl (by decide) (by decide) PyProof.Rows.Boot.«ValueError» q
        · refine wpAny_execs_cons (wpAny_Return_some (wpAny_Constant_bool ?_))
          refine ⟨I.step.set (tk := tk) g₆ (k''.trans k₆), ?_⟩
          have hr : rem (ded [] is) (ded [] js) = none := by
            rw [← List.take_append_drop (j + 1) (ded [] is)]
            refine rem_none_append _ _ _ ?_
            rw [hsn, rem_snoc, hrem]; simp [hfi]
          unfold cmp
          rw [hr]
  · exact pF1₇.keeps fun _ _ e => Heap.get?_push_of_some _ e
  · refine ⟨?_, ⟨_, hn₇.push _, upd_same ..⟩, ⟨_, Heap.get?_push_size _ rfl, rfl, rfl⟩, gs, _, pT₇.keeps fun _ _ e => Heap.get?_push_of_some _ e, tF2, lF2, rfl⟩
    exact S₇.set (stays_push S₇.ground) (S₇.kept.trans (.push _ _))
end Mine

open PySem PySem.W PyProof.Rows
set_option Elab.async false
set_option maxRecDepth 100000
namespace Mine
open PySem.SeqAt PySem.Calls

def single (n : Int) : Bool := if n == 0 then false else Builtin.bitAnd n (n - 1) == 0
section
variable {prog : Program} {w : World} {A : Around} {E : Value → Shared → Prop} {s : Shared}
theorem eq_int {a b : Int} {t u : Tok} {Q : Value → Shared → Prop} (h : Q (.bool (a == b)) s) : wpAny (model prog w) A (compareOp .Eq (.int a t) (.int b u)) Q E s := wpAny_eq_int h
end

theorem single_call {prog : Program} {w : World} {A : Around} {G : Heap} {mg mb : Str → Option Value} {l : List Env} {s : Shared} {n : Int} {t : Tok} {v : Value}
    (gd : Gd G mg mb) (R : Rdy A G l s.heap 1 53) (hv : mg (nameOf (stm 4)) = some v) :
    wpAny (model prog w) A (call v [.int n t]) (fun r s' => Step G s s' ∧ r = .bool (single n)) (fun _ _ => False) s := by
  refine enter gd R gd.fn4 hv (binds := [("num", .int n t)]) (fun _ _ _ => rfl) (locs (by rfl)) (fun f cd h₁ hn k R₁ => ?_) rfl rfl rfl (by decide)
  have gS := R.below.stays
  have nL : s.heap.get? s.heap.objs.size = none := none_size s.heap
  generalize s.heap.objs.size = L at hn R₁ nL ⊢
  generalize hA : A.deeper (envOf (nameOf (stm 4)) (scopeOf (stm 4)) L f cd) = A₁ at R₁ ⊢
  have g₁ := R₁.below.stays
  have S₁ : Step G s { s with heap := h₁, toks := s.toks + [((("num" : Str), Value.int n t))].length } := .of g₁ k
  refine wpAny_execs_cons (wpAny_If (wpAny_isTrue_Compare1 ?_))
  refine name_local rfl rfl hn (v := .int n t) (by rfl) ?_
  refine wpAny_Constant_int (eq_int (wpAny_truthy_bool ?_))
  cases hb : n == 0 with
  | true =>
    refine wpAny_execs_cons (wpAny_Return_some (wpAny_Constant_bool ⟨S₁.trans (.tok S₁.ground), ?_⟩))
    unfold single; rw [hb]; rfl
  | false =>
    refine wpAny_execs_nil ?_
    refine wpAny_execs_cons (wpAny_AugAssign_Name ?_)
    refine wpAny_loadName_local rfl rfl hn (v := .int n t) (by rfl) ?_
    refine wpAny_BinOp (name_local rfl rfl hn (v := .int n t) (by rfl) (wpAny_Constant_int (AutoIntOps.sub_0 ?_)))
    refine iand_int ?_
    refine store_local rfl rfl hn fun h₂ hn₂ sb₂ => ?_
    refine wpAny_execs_cons (wpAny_Return_some (wpAny_Compare1 ?_))
    refine name_local rfl rfl hn₂ (upd_same ..) ?_
    refine wpAny_Constant_int (eq_int ⟨S₁.set (stays_extBut g₁ (stays_none gS nL) sb₂.extBut) (k.sameBut nL sb₂), ?_⟩)
    unfold single; rw [hb]; rfl

theorem high_call {prog : Program} {w : World} {A : Around} {G : Heap} {mg mb : Str → Option Value} {l : List Env} {s : Shared} {n : Int} {t : Tok} {v : Value}
    (gd : Gd G mg mb) (R : Rdy A G l s.heap 1 53) (hv : mg (nameOf (stm 5)) = some v) :
    wpAny (model prog w) A (call v [.int n t]) (fun r s' => Step G s s' ∧ ∃ u, r = .int ((Builtin.Int.intBits n : Int) - 1) u) (fun _ _ => False) s := by
  refine enter gd R gd.fn5 hv (binds := [("value", .int n t)]) (fun _ _ _ => rfl) (locs (by rfl)) (fun f cd h₁ hn k R₁ => ?_) rfl rfl rfl (by decide)
  generalize s.heap.objs.size = L at hn R₁ ⊢
  generalize hA : A.deeper (envOf (nameOf (stm 5)) (scopeOf (stm 5)) L f cd) = A₁ at R₁ ⊢
  have g₁ := R₁.below.stays
  refine wpAny_execs_cons (wpAny_Return_some (wpAny_BinOp ?_))
  refine wpAny_Call_method rfl rfl rfl F.plainAttrs_int F.slot_int_bit_length F.type_int_bit_length ?_
  refine name_local rfl rfl hn (v := .int n t) (by rfl) ⟨typeIs_int _ _ _, (fun a e => by cases e), ?_⟩
  refine callWith_method0 (call_gives F.slot_int_bit_length (typeIs_int _ _ _) F.entry_int_bit_length (F.args_int_bit_length_1 _) (AutoIntG2.int_bit_length_int_0 n t) ?_)
  refine wpAny_Constant_int (AutoIntOps.sub_0 ⟨?_, _, rfl⟩)
  exact ⟨_, _, rfl, g₁, k⟩
end Mine

open PySem PySem.W PyProof.Rows
set_option Elab.async false
set_option maxRecDepth 100000
namespace Mine
open PySem.SeqAt PySem.Calls

/-- `x` is a pair: a thing and its kind -/
def Pair (h : Heap) (x : Value) (i : Nat) : Prop := i < 10 ∧ ∃ p v t, x = .ref p ∧ PlainL h p #[v, .int (kind i) t] ∧ Thing h v i
theorem k_pair {h h' : Heap} {x : Value} {i : Nat} (k : Kept h h') (q : Pair h x i) : Pair h' x i := by
  obtain ⟨hi, p, v, t, rfl, l, th⟩ := q; exact ⟨hi, p, v, t, rfl, k_plainL k l, k_thing k th⟩
inductive PairsAt (h : Heap) : List Value → List Nat → Prop
  | nil : PairsAt h [] []
  | cons {x : Value} {i : Nat} {xs : List Value} {is : List Nat} : Pair h x i → PairsAt h xs is → PairsAt h (x :: xs) (i :: is)
theorem k_pairs {h h' : Heap} {xs : List Value} {is : List Nat} (k : Kept h h') (q : PairsAt h xs is) : PairsAt h' xs is := by
  induction q with
  | nil => exact .nil
  | cons p _ ih => exact .cons (k_pair k p) ih
theorem PairsAt.length {h : Heap} {xs : List Value} {is : List Nat} (q : PairsAt h xs is) : xs.length = is.length := by
  induction q with
  | nil => rfl
  | cons _ _ ih => simp [ih]
theorem PairsAt.get {h : Heap} {xs : List Value} {is : List Nat} (q : PairsAt h xs is) : ∀ {m : Nat} {x : Value}, xs[m]? = some x → ∃ i, is[m]? = some i ∧ Pair h x i := by
  induction q with
  | nil => intro m x e; simp at e
  | cons p _ ih =>
    intro m x e
    cases m with
    | zero => simp at e; subst e; exact ⟨_, rfl, p⟩
    | succ m => exact ih (by simpa using e)
theorem PairsAt.append {h : Heap} {xs ys : List Value} {is js : List Nat} (x : PairsAt h xs is) (y : PairsAt h ys js) : PairsAt h (xs ++ ys) (is ++ js) := by
  induction x with
  | nil => exact y
  | cons p _ ih => exact .cons p ih

section
variable (prog : Program) (w : World) (A : Around) (G : Heap) (env : Env)
/-- the expression makes thing `i` -/
def EvThing (e : Expr) (i : Nat) : Prop := ∀ (s : Shared) (E : Value → Shared → Prop), G.StaysIn s.heap → wpAny (model prog w) A (eval e env) (fun x s' => Step G s s' ∧ Thing s'.heap x i) E s
def EvPair (e : Expr) (i : Nat) : Prop := ∀ (s : Shared) (E : Value → Shared → Prop), G.StaysIn s.heap → wpAny (model prog w) A (eval e env) (fun x s' => Step G s s' ∧ Pair s'.heap x i) E s
end
section
variable {prog : Program} {w : World} {A : Around} {G : Heap} {env : Env}
theorem plain_new (h : Heap) (xs : List Value) : PlainL (h.push { cls := .type "list", data := .seq xs.toArray }) h.objs.size xs.toArray := ⟨_, _, Heap.get?_push_size _ rfl, rfl, rfl, rfl⟩
theorem ev_pair {e : Expr} {i : Nat} {k : Nat} {p pos : Pos} {z : Int} (hi : i < 10) (hz : z = (kind i : Int)) (h : EvThing prog w A G env e i) (he : starEach [e, .Constant (.int z) k p] env = (false, eval e env) :: starEach [.Constant (.int z) k p] env) :
    EvPair prog w A G env (.List [e, .Constant (.int z) k p] pos) i := fun s E g => by
  subst hz
  refine List_ (args_cons (wpAny_mono (h s _ g) (fun x s₁ h₁ => ?_) fun _ _ e => e) he)
  obtain ⟨S₁, t₁⟩ := h₁
  refine args_cons (wpAny_Constant_int (args_nil ?_))
  refine wpAny_newObj_type ?_ (by size_fits)
  refine ⟨S₁.set (stays_push S₁.ground) (S₁.kept.trans (.push _ _)), hi, _, x, s₁.toks, rfl, plain_new _ [x, .int (kind i) s₁.toks], k_thing (.push _ _) t₁⟩

inductive EvAll (prog : Program) (w : World) (A : Around) (G : Heap) (env : Env) : List Expr → List Nat → Prop
  | nil : EvAll prog w A G env [] []
  | cons {e : Expr} {i : Nat} {es : List Expr} {is : List Nat} : EvPair prog w A G env e i → starEach (e :: es) env = (false, eval e env) :: starEach es env → EvAll prog w A G env es is → EvAll prog w A G env (e :: es) (i :: is)
theorem ev_list {es : List Expr} {is : List Nat} {pos : Pos} (h : EvAll prog w A G env es is) : ∀ (s : Shared) (E : Value → Shared → Prop), G.StaysIn s.heap →
    wpAny (model prog w) A (spliced (backTo pos (starEach es env))) (fun xs s' => Step G s s' ∧ PairsAt s'.heap xs is) E s := by
  induction h with
  | nil => intro s E g; exact args_nil ⟨.refl g, .nil⟩
  | cons h1 h2 _ ih =>
    intro s E g
    refine args_cons (wpAny_mono (h1 s _ g) (fun x s₁ q₁ => ?_) fun _ _ e => e) h2
    obtain ⟨S₁, p₁⟩ := q₁
    refine wpAny_mono (ih s₁ _ S₁.ground) (fun xs s₂ q₂ => ?_) fun _ _ e => e
    exact ⟨S₁.trans q₂.1, .cons (k_pair q₂.1.kept p₁) q₂.2⟩

theorem ev_int {z : Int} {k : Nat} {p : Pos} {i : Nat} (hf : flat i = true) (hd : datum i = .int z) : EvThing prog w A G env (.Constant (.int z) k p) i := fun s E g =>
  wpAny_Constant_int ⟨.tok g, .flat (as := []) hf (by rw [hd]; exact .int z _)⟩
theorem ev_bool {b : Bool} {k : Nat} {p : Pos} {i : Nat} (hf : flat i = true) (hd : datum i = .bool b) : EvThing prog w A G env (.Constant (.bool b) k p) i := fun s E g =>
  wpAny_Constant_bool ⟨.refl g, .flat (as := []) hf (by rw [hd]; exact .bool b)⟩
theorem ev_str {x : Str} {k : Nat} {p : Pos} {i : Nat} (hf : flat i = true) (hd : datum i = .str x) : EvThing prog w A G env (.Constant (.str x) k p) i := fun s E g =>
  wpAny_Constant_str ⟨.tok g, .flat (as := []) hf (by rw [hd]; exact .str x _)⟩
theorem ev_list1 {k : Nat} {p pos : Pos} : EvThing prog w A G env (.List [.Constant (.int 1) k p] pos) 2 := fun s E g => by
  refine List_ (args_cons (wpAny_Constant_int (args_nil ?_)))
  refine wpAny_newObj_type ?_ (by size_fits)
  exact ⟨⟨_, _, rfl, stays_push g, .push _ _⟩, .flat rfl (.list (Heap.get?_push_size _ rfl) rfl rfl (.cons (.int 1 _) .nil))⟩
theorem ev_listT {k : Nat} {p pos : Pos} : EvThing prog w A G env (.List [.Constant (.bool true) k p] pos) 3 := fun s E g => by
  refine List_ (args_cons (wpAny_Constant_bool (args_nil ?_)))
  refine wpAny_newObj_type ?_ (by size_fits)
  exact ⟨⟨_, _, rfl, stays_push g, .push _ _⟩, .flat rfl (.list (Heap.get?_push_size _ rfl) rfl rfl (.cons (.bool true) .nil))⟩
theorem ev_tuple {k k' n : Nat} {p p' pos : Pos} : EvThing prog w A G env (.Tuple [.Constant (.int 1) k p, .Constant (.int 2) k' p'] n pos) 9 := fun s E g => by
  refine Tuple_ (args_cons (wpAny_Constant_int (args_cons (wpAny_Constant_int (args_nil ?_)))))
  refine wpAny_newObj_type ?_ (by size_fits)
  exact ⟨⟨_, _, rfl, stays_push g, .push _ _⟩, .flat rfl (.tuple (Heap.get?_push_size _ rfl) rfl rfl (.cons (.int 1 _) (.cons (.int 2 _) .nil)))⟩

theorem dk_of {h : Heap} {a : Addr} {u : Value} (x : h.DictOf (PySem.strKind prog w) a [("k", u)]) : DK h a u := by
  obtain ⟨o, es, ep, ho, he, hd, hk, hp, _⟩ := x
  obtain ⟨l⟩ := es
  cases hp with
  | cons h1 h2 h3 =>
    cases h3
    rename_i e
    obtain ⟨hs, key, val⟩ := e
    obtain ⟨t, rfl⟩ := Value.isStrOf_shape h1
    simp only at h2
    subst h2
    exact ⟨o, hs, t, ep, ho, he.1, hd⟩

theorem not_sys {G : Heap} {mg mb : Str → Option Value} (gd : Gd G mg mb) {h : Heap} (gs : G.StaysIn h) : (h.objs.size == sysModules) = false := by
  have := (gd.g.keeps gs).lt
  have h3 : 3 < h.objs.size := this
  rw [beq_eq_false_iff_ne]
  show h.objs.size ≠ 1
  omega
theorem ev_dict {G : Heap} {mg mb : Str → Option Value} (gd : Gd G mg mb) {k k' : Nat} {p p' pos : Pos} {c : Const} {i : Nat}
    (hc : ∀ (s : Shared) (E : Value → Shared → Prop), wpAny (model prog w) A (eval (.Constant c k' p') env) (fun x s' => (∃ tk, s' = { s with toks := tk }) ∧ ∀ a h, (a == sysModules) = false → DK h a x → Thing h (.ref a) i) E s) :
    EvThing prog w A G env (.Dict [some (.Constant (.str "k") k p)] [.Constant c k' p'] pos) i := fun s E g => by
  refine wpAny_Dict_walk (knd := PySem.strKind prog w) rfl rfl (by simp) (by simp) ?_
  refine pairTrees_cons_walk (wpAny_Constant_str (wpAny_mono (hc _ _) (fun u s₁ h₁ => ?_) fun _ _ e => e))
  obtain ⟨⟨tk, rfl⟩, hu⟩ := h₁
  refine pairTrees_nil_walk ⟨[("k", u)], ?_, ?_, fun h' hd sb => ?_⟩
  · exact ⟨strKind_is _ _ _ _, rfl, trivial⟩
  · exact ⟨_, _, _, Heap.get?_push_size _ rfl, ⟨rfl, rfl, rfl⟩, rfl, fun e he => by simp at he, .nil, by simp⟩
  · have hd' : h'.DictOf (PySem.strKind prog w) s.heap.objs.size [("k", u)] := hd
    have nz : s.heap.get? s.heap.objs.size = none := none_size _
    have k1 : Kept s.heap h' := (Kept.push s.heap { cls := .type "dict", data := .dict #[] }).sameBut nz sb
    refine ⟨⟨_, _, rfl, stays_extBut (stays_push g) (stays_none g nz) sb.extBut, k1⟩, hu _ _ (not_sys gd g) (dk_of hd')⟩

theorem ev_dict1 {G : Heap} {mg mb : Str → Option Value} (gd : Gd G mg mb) {k k' : Nat} {p p' pos : Pos} : EvThing prog w A G env (.Dict [some (.Constant (.str "k") k p)] [.Constant (.int 1) k' p'] pos) 7 := by
  refine ev_dict gd ?_
  intro s E
  refine wpAny_Constant_int ?_
  exact ⟨⟨s.toks + 1, rfl⟩, fun a h n d => .one n d⟩
theorem ev_dictT {G : Heap} {mg mb : Str → Option Value} (gd : Gd G mg mb) {k k' : Nat} {p p' pos : Pos} : EvThing prog w A G env (.Dict [some (.Constant (.str "k") k p)] [.Constant (.bool true) k' p'] pos) 8 := by
  refine ev_dict gd ?_
  intro s E
  refine wpAny_Constant_bool ?_
  exact ⟨⟨s.toks, rfl⟩, fun a h n d => .yes n d⟩

/-- `_law_things` makes the ten pairs -/
theorem things_call {l : List Env} {s : Shared} {G : Heap} {mg mb : Str → Option Value} {v : Value} (gd : Gd G mg mb) (R : Rdy A G l s.heap 1 53) (hv : mg (nameOf (stm 7)) = some v) :
    wpAny (model prog w) A (call v []) (fun r s' => Step G s s' ∧ ∃ a xs, r = .ref a ∧ s.heap.get? a = none ∧ PlainL s'.heap a xs.toArray ∧ PairsAt s'.heap xs [0, 1, 2, 3, 4, 5, 6, 7, 8, 9]) (fun _ _ => False) s := by
  refine enter gd R gd.fn7 hv (binds := []) (fun _ _ _ => rfl) (by simp) (fun f cd h₁ hn k R₁ => ?_) rfl rfl rfl (fun x hx => nomatch hx)
  generalize s.heap.objs.size = L at hn R₁ ⊢
  generalize hA : A.deeper (envOf (nameOf (stm 7)) (scopeOf (stm 7)) L f cd) = A₁ at R₁ ⊢
  have g₁ := R₁.below.stays
  refine wpAny_execs_cons ?_
  refine wpAny_Return_some ?_
  refine List_ ?_
  have ev := fun es pos (h : EvAll prog w A₁ G (envOf (nameOf (stm 7)) (scopeOf (stm 7)) L f cd) es [0, 1, 2, 3, 4, 5, 6, 7, 8, 9]) => ev_list (pos := pos) h { s with heap := h₁, toks := s.toks + ([] : List (Str × Value)).length } (fun _ _ => False) g₁
  refine wpAny_mono (Q := fun xs s' => Step G { s with heap := h₁, toks := s.toks + ([] : List (Str × Value)).length } s' ∧ PairsAt s'.heap xs [0, 1, 2, 3, 4, 5, 6, 7, 8, 9]) (E := fun _ _ => False) ?h ?q ?e
  case e => exact fun _ _ e => e
  case h =>
    with_reducible refine ev _ _ ?_
    refine .cons (ev_pair (by decide) rfl (ev_int rfl rfl) rfl) rfl ?_
    refine .cons (ev_pair (by decide) rfl (ev_bool rfl rfl) rfl) rfl ?_
    refine .cons (ev_pair (by decide) rfl ev_list1 rfl) rfl ?_
    refine .cons (ev_pair (by decide) rfl ev_listT rfl) rfl ?_
    refine .cons (ev_pair (by decide) rfl (ev_str rfl rfl) rfl) rfl ?_
    refine .cons (ev_pair (by decide) rfl (ev_int rfl rfl) rfl) rfl ?_
    refine .cons (ev_pair (by decide) rfl (ev_bool rfl rfl) rfl) rfl ?_
    refine EvAll.cons (ev_pair ?a1 ?a2 ?a3 ?a4) ?b ?c
    case a1 => decide
    case a2 => rfl
    case a3 => with_reducible exact ev_dict1 gd
    case a4 => rfl
    case b => rfl
    refine EvAll.cons (ev_pair ?d1 ?d2 ?d3 ?d4) ?e1 ?e2
    case d1 => decide
    case d2 => rfl
    case d3 => with_reducible exact ev_dictT gd
    case d4 => rfl
    case e1 => rfl
    refine .cons (ev_pair (by decide) rfl ev_tuple rfl) rfl ?_
    exact .nil
  case q =>
    rintro xs s₂ ⟨S₂, p₂⟩
    have S : Step G s s₂ := Step.trans (.of g₁ k) S₂
    refine wpAny_newObj_type ?_ ?_
    · exact ⟨S.set (stays_push S.ground) (S.kept.trans (.push _ _)), _, xs, rfl, S.kept.isNone (none_size _), plain_new _ xs, k_pairs (.push _ _) p₂⟩
    · show xs.toArray.size ≤ sizeLine
      rw [List.size_toArray, p₂.length]
      decide
end
end Mine

open PySem PySem.W PyProof.Rows
set_option Elab.async false
set_option maxRecDepth 100000
namespace Mine
open PySem.SeqAt PySem.Calls
section
variable {prog : Program} {w : World} {A : Around} {E : Value → Shared → Prop} {s : Shared}
theorem unpack2 {p : Addr} {x y : Value} {Q : List Value → Shared → Prop} (hh : A.handled = none) (hl : s.heap.IsList p #[x, y])
    (hQ : ∀ h', Heap.ExtBut s.heap.objs.size s.heap h' → Q [x, y] { s with heap := h' }) : wpAny (model prog w) A (unpackItems (.ref p) 2 none) Q E s := by
  have hlt : p ≠ s.heap.objs.size := by obtain ⟨o, ho, _⟩ := hl; exact Nat.ne_of_lt (Heap.lt_size ho)
  unfold unpackItems
  refine wpAny_bind ?_
  unfold notIterableAtAll
  refine wpAny_bind (wpAny_specialOf hl.typeIs slot_list_iter.lookup ?_)
  refine wpAny_pure ?_
  simp only [Bool.false_eq_true, if_false]
  refine wpAny_bind (wpAny_holding (wpAny_pyIter_list hl ?_))
  refine wpAny_bind (wpAny_holding ?_)
  have it0 : (s.heap.push { cls := .type "list_iterator", data := .fields #[.ref p, .int 0 0] }).IsListIter s.heap.objs.size p 0 := ⟨_, Heap.get?_push_size _ rfl, rfl, rfl⟩
  have hl0 := hl.push { cls := .type "list_iterator", data := .fields #[.ref p, .int 0 0] }
  rw [draw]
  refine wpAny_bind (wpAny_pyNext_list_item it0 hl0 (x := x) rfl fun h₁ it1 sb1 => ?_)
  have hl1 := hl0.extBut sb1.extBut hlt
  refine wpAny_bind (wpAny_holding ?_)
  rw [draw]
  refine wpAny_bind (wpAny_pyNext_list_item it1 hl1 (x := y) rfl fun h₂ it2 sb2 => ?_)
  have hl2 := hl1.extBut sb2.extBut hlt
  refine wpAny_bind (wpAny_holding ?_)
  rw [draw]
  refine wpAny_pure (wpAny_pure (wpAny_pure ?_))
  rw [if_neg (by simp)]
  refine wpAny_bind (wpAny_holding (wpAny_pyNext_list_end hh it2 hl2 rfl fun h₃ eb => ?_))
  simp only [Option.isSome_none, Bool.false_eq_true, if_false]
  refine wpAny_pure (hQ h₃ fun b o hb e => eb b o hb (sb2.extBut b o hb (sb1.extBut b o hb (Heap.get?_push_of_some _ e))))

/-- a pair taken apart into two names of a block -/
theorem assign_pair {G : Heap} {env : Env} {a b : Str} {pa pb pos : Pos} {k : Nat} {p : Addr} {x y : Value} {m : Str → Option Value} {Q : Unit → Shared → Prop} (hh : A.handled = none) (hl : s.heap.IsList p #[x, y])
    (hk : env.scope.kind = .function) (ha : env.kindOf a = some .local) (hb : env.kindOf b = some .local) (hn : s.heap.Ns env.locals m) (g : G.StaysIn s.heap) (gC : G.get? env.locals = none)
    (h : ∀ h' tk, h'.Ns env.locals (upd (upd m a x) b y) → KeptBut [env.locals] s.heap h' → G.StaysIn h' → Q () { s with heap := h', toks := tk }) :
    wpAny (model prog w) A (assign (.Tuple [.Name a pa, .Name b pb] k pos) env (.ref p)) Q E s := by
  rw [arm_assign_Tuple]
  refine wpAny_bind (wpAny_standAt ?_)
  unfold unpack
  refine wpAny_bind (wpAny_holding (unpack2 hh hl fun h₁ eb => ?_))
  have k1 : ∀ b o, s.heap.get? b = some o → h₁.get? b = some o := fun b o e => eb b o (Nat.ne_of_lt (Heap.lt_size e)) e
  have hn₁ := hn.keeps k1
  show wpAny _ _ (assignInOrder [assign (.Name a pa) env, assign (.Name b pb) env] [x, y]) _ _ _
  rw [assignInOrder]
  refine wpAny_bind (wpAny_holding (wpAny_assign_Name (store_local hk ha hn₁ fun h₂ hn₂ sb₂ => ?_)))
  rw [assignInOrder]
  refine wpAny_bind (wpAny_holding (wpAny_assign_Name (store_local hk hb hn₂ fun h₃ hn₃ sb₃ => ?_)))
  rw [assignInOrder]
  · refine wpAny_pure (h h₃ _ hn₃ ?_ (stays_extBut (stays_extBut (stays_keeps g k1) gC sb₂.extBut) gC sb₃.extBut))
    intro c o hc e
    exact ⟨o, sb₃.extBut c o (fun q => hc (by simp [q])) (sb₂.extBut c o (fun q => hc (by simp [q])) (k1 c o e)), .refl o⟩
  · intro _ _ _ _ q; cases q
end
end Mine

open PySem PySem.W PyProof.Rows
set_option Elab.async false
set_option maxRecDepth 100000
namespace Mine
open PySem.SeqAt PySem.Calls

/-- a call of a def with cells -/
theorem enterC {prog : Program} {w : World} {A : Around} {G : Heap} {mg mb : Str → Option Value} {l : List Env} {s : Shared} {d u : Nat} {D : Stmt} {args : List Value} {binds : List (Str × Value)} {Q : Value → Shared → Prop} {v : Value}
    (gd : Gd G mg mb) (R : Rdy A G l s.heap (d + 1) (u + 3)) (fn : FnAt G mg D) (hv : mg (nameOf D) = some v)
    (hbind : ∀ pm code doc, bindArgs (Calls.docDef (nameOf D) (paramsOf D) (bodyOf D) (scopeOf D) pm code doc) ⟨args, []⟩ = pure binds)
    (hkind : ∀ n, ∀ x ∈ binds, (scopeOf D).names.lookup x.1 = some .local ∨ ((scopeOf D).names.lookup x.1 = some .cell ∧ ((cellsFrom n (scopeOf D).names []).lookup x.1).isSome = true))
    (h : ∀ f cd L s₁, s.heap.get? L = none → InCallC s L (bindL (envOfC (nameOf D) (scopeOf D) L f cd).kindOf binds fun _ => none) (envOfC (nameOf D) (scopeOf D) L f cd).cells (bindC (envOfC (nameOf D) (scopeOf D) L f cd).kindOf binds fun _ => none) s₁ →
      Rdy (A.deeper (envOfC (nameOf D) (scopeOf D) L f cd)) G (envOfC (nameOf D) (scopeOf D) L f cd :: l) s₁.heap d u →
      wpAny (model prog w) (A.deeper (envOfC (nameOf D) (scopeOf D) L f cd)) (execs (bodyOf D) (envOfC (nameOf D) (scopeOf D) L f cd))
        (fun fl s' => Q (match fl with | .ret v => v | _ => .none) s') (fun _ _ => False) s₁)
    (hco : (scopeOf D).isCoroutine = false) (hgen : (scopeOf D).isGenerator = false) (hk : (scopeOf D).kind = .function) :
    wpAny (model prog w) A (call v args) Q (fun _ _ => False) s := by
  obtain ⟨a, o, pm, code, doc, hmg, ho, hd, hcd⟩ := fn
  rw [hv] at hmg
  cases hmg
  have gs := R.below.stays
  refine wpAny_call (codeAny_call_cells (by have := R.depth; show _ < 1000; omega) (gs _ _ ho) hd (gd.nolimit.keeps gs) (hcd.keeps gs) rfl (hbind _ _ _) rfl (hkind _) (fun s₁ x => ?_) hco hgen hk)
  have k : Kept s.heap s₁.heap := .of_keeps x.toInCall.keep
  exact wpAny_mono (h a code s.heap.objs.size s₁ (none_size _) x (R.deeper k (stays_keeps gs x.toInCall.keep) (none_size _) x.toInCall.ns rfl hk)) (fun _ _ q => q) fun _ _ q => q.elim

/-- ints of these values -/
inductive Ints : List Value → List Nat → Prop
  | nil : Ints [] []
  | cons {t : Tok} {n : Nat} {vs : List Value} {ns : List Nat} : Ints vs ns → Ints (.int (n : Int) t :: vs) (n :: ns)
theorem Ints.length {vs : List Value} {ns : List Nat} (x : Ints vs ns) : vs.length = ns.length := by
  induction x with
  | nil => rfl
  | cons _ ih => simp [ih]
def hitsInt (k : Int) : Value → Bool
  | .int z _ => z == k
  | _ => false
theorem Ints.any {vs : List Value} {ns : List Nat} (x : Ints vs ns) (k : Nat) : vs.any (hitsInt k) = ns.contains k := by
  induction x with
  | nil => rfl
  | @cons t n vs ns _ ih =>
    rw [List.any_cons, List.contains_cons, ih]
    have : hitsInt k (.int (n : Int) t) = (k == n) := by
      show ((n : Int) == (k : Int)) = (k == n)
      rw [Bool.eq_iff_iff, beq_iff_eq, beq_iff_eq]
      omega
    rw [this]
theorem Ints.eqAt {vs : List Value} {ns : List Nat} (x : Ints vs ns) {A : Around} {s : Shared} (k : Int) (t : Tok) : ∀ y, y ∈ vs.toArray → EqAt A s y (.int k t) (hitsInt k y) := by
  induction x with
  | nil => intro y hy; simp at hy
  | @cons u n vs ns _ ih =>
    intro y hy
    simp at hy
    rcases hy with rfl | hy
    · exact EqAt.int_int _ _ _ _
    · exact ih y (by simpa using hy)

theorem Ints.allInts {vs : List Value} {ns : List Nat} (x : Ints vs ns) : AllInts vs.toArray ∧ numsOf vs = ns.map (fun n : Nat => (n : Int)) := by
  induction x with
  | nil => exact ⟨fun v hv => by simp at hv, rfl⟩
  | @cons t n vs ns _ ih =>
    refine ⟨fun v hv => ?_, by simp [numsOf, ih.2]⟩
    simp at hv
    rcases hv with rfl | hv
    · exact ⟨_, _, rfl⟩
    · exact ih.1 v (by simpa using hv)

theorem sum_cast : ∀ ns : List Nat, (ns.map (fun n : Nat => (n : Int))).sum = ((ns.sum : Nat) : Int)
  | [] => rfl
  | n :: r => by rw [List.map_cons, List.sum_cons, List.sum_cons, sum_cast r]; omega
theorem sum_ints {prog : Program} {w : World} {A : Around} {E : Value → Shared → Prop} {s : Shared} {l : Addr} {vs : List Value} {ns : List Nat} {Q : Value → Shared → Prop} (hh : A.handled = none) (hl : s.heap.IsList l vs.toArray) (x : Ints vs ns)
    (h : ∀ h' tk t', (∀ b o, s.heap.get? b = some o → h'.get? b = some o) → Q (.int (ns.sum : Nat) t') { s with heap := h', toks := tk }) : wpAny (model prog w) A (call (.builtin "sum") [.ref l]) Q E s := by
  obtain ⟨a, b⟩ := x.allInts
  obtain ⟨xs, e⟩ := a.items
  rw [e] at hl
  refine sum_intListG hh hl fun h' tk t' k => ?_
  have e2 : preSum (numAt xs) xs.size = ((ns.sum : Nat) : Int) := by
    have h1 := nums_intItems xs
    rw [← e] at h1
    rw [preSum_eq, List.take_of_length_le (by simp), ← h1]
    show (numsOf vs).sum = _
    rw [b, sum_cast]
  rw [e2]
  exact h h' tk t' k

/-- the sum of two to each kind of these -/
def flagOf (ks : List Nat) : Nat := (((List.range 6).filter fun k => ks.contains k).map fun k => 2 ^ k).sum

section
variable {prog : Program} {w : World} {A : Around} {E : Value → Shared → Prop} {s : Shared} {env : Env}
theorem name_cell {x : Str} {pos : Pos} {c : Addr} {v : Value} {Q : Value → Shared → Prop} (hk : env.scope.kind = .function) (hl : env.kindOf x = some .cell) (hc : env.cells.lookup x = some c) (hv : s.heap.IsCell c (some v)) (h : Q v s)
    (hd : (x == ("__debug__" : Str)) = false := by decide) : wpAny (model prog w) A (eval (.Name x pos) env) Q E s := wpAny_Name (wpAny_loadName_cell hk hl hc hv h) hd
theorem in_ints {a : Addr} {vs : List Value} {ns : List Nat} {k : Nat} {t : Tok} {Q : Value → Shared → Prop} (hl : s.heap.IsList a vs.toArray) (x : Ints vs ns) (h : Q (.bool (ns.contains k)) s) :
    wpAny (model prog w) A (compareOp .In (.int (k : Int) t) (.ref a)) Q E s := by
  refine in_listAt (hitsInt k) hl (x.eqAt _ _) ?_
  rw [List.any_toArray, x.any]; exact h
theorem pow_two {k : Nat} {t u : Tok} {Q : Value → Shared → Prop} (hk : k < 6) (h : Q (.int ((2 ^ k : Nat) : Int) s.toks) { s with toks := s.toks + 1 }) : wpAny (model prog w) A (binaryOp .Pow (.int 2 t) (.int (k : Int) u)) Q E s := by
  match k, hk with
  | 0, _ => exact AutoIntOps.pow_0 (by decide) (by decide) h
  | 1, _ => exact AutoIntOps.pow_4 (by decide) (by decide) (by decide) (by decide) (by decide +kernel) h
  | 2, _ => exact AutoIntOps.pow_4 (by decide) (by decide) (by decide) (by decide) (by decide +kernel) h
  | 3, _ => exact AutoIntOps.pow_4 (by decide) (by decide) (by decide) (by decide) (by decide +kernel) h
  | 4, _ => exact AutoIntOps.pow_4 (by decide) (by decide) (by decide) (by decide) (by decide +kernel) h
  | 5, _ => exact AutoIntOps.pow_4 (by decide) (by decide) (by decide) (by decide) (by decide +kernel) h
end

theorem paired_ints {l : List Nat} {ys : List Value} {f : Nat → Nat} (x : Paired (fun (i : Nat) y => ∃ t, y = Value.int ((f i : Nat) : Int) t) l ys) : Ints ys (l.map f) := by
  induction x with
  | nil => exact .nil
  | cons h _ ih => obtain ⟨t, rfl⟩ := h; exact .cons ih

/-- `_law_flag` -/
theorem flag_call {prog : Program} {w : World} {A : Around} {G : Heap} {mg mb : Str → Option Value} {l : List Env} {s : Shared} {a : Addr} {vs : List Value} {ns : List Nat} {v : Value}
    (gd : Gd G mg mb) (R : Rdy A G l s.heap 1 53) (hl : s.heap.IsList a vs.toArray) (hns : Ints vs ns) (hv : mg (nameOf (stm 8)) = some v) :
    wpAny (model prog w) A (call v [.ref a]) (fun r s' => Step G s s' ∧ ∃ t, r = .int (flagOf ns : Nat) t) (fun _ _ => False) s := by
  refine enterC gd R gd.fn8 hv (binds := [("kinds", .ref a)]) (fun _ _ _ => rfl) (fun n x hx => ?_) (fun f cd L s₁ nL x R₁ => ?_) rfl rfl rfl
  · obtain rfl := List.mem_singleton.mp hx
    exact .inr ⟨rfl, rfl⟩
  have gS := R.below.stays
  generalize hA : A.deeper (envOfC (nameOf (stm 8)) (scopeOf (stm 8)) L f cd) = A₁ at R₁ ⊢
  have g₁ := R₁.below.stays
  have hh : A₁.handled = none := by rw [← hA]; exact R.handled
  obtain ⟨h₁, tk, rfl⟩ := x.toInCall.same
  have k : Kept s.heap h₁ := .of_keeps x.toInCall.keep
  have S₁ : Step G s { s with heap := h₁, toks := tk } := .of g₁ k
  have hc : h₁.IsCell (L + 1) (some (.ref a)) := x.cell "kinds" (L + 1) rfl
  refine wpAny_execs_cons (wpAny_Return_some ?_)
  refine Call_ (name_builtin gd g₁ rfl rfl rfl rfl (by decide) (by decide) (v := .builtin "sum") PyProof.Rows.Boot.«sum» ?_)
  refine callWith_builtin1 (args_cons ?_)
  refine comp_value (G := G) (cl := [("kinds", L + 1)]) hh rfl (by decide) rfl (by decide) ?_
  refine Call_ (name_builtin gd g₁ rfl rfl rfl rfl (by decide) (by decide) (v := .type "range") PyProof.Rows.Boot.«range» ?_)
  refine callWith_type1 (args_cons (wpAny_Constant_int (args_nil (call_range_1 ?_))))
  have gB : G.StaysIn (h₁.push { cls := .type "range", data := .fields #[.int 0 (tk + 1), .int 6 tk, .int 1 (tk + 1 + 1)] }) := stays_push g₁
  refine ⟨6, _, fun i => ns.contains i, fun i y => ∃ t, y = .int ((2 ^ i : Nat) : Int) t, .range rfl (IsRange.new h₁ 0 6 1 _ _ _), by decide, gB, .inl ⟨_, _, rfl⟩, ?_, ?_⟩
  · intro C i v s₂ m E' nC hi hv S₂ hm
    obtain ⟨t, rfl⟩ := hv
    have gC : G.get? C = none := stays_none gB nC
    refine wpAny_assign_Name (store_local rfl rfl hm fun h₃ hm₃ sb₃ => ?_)
    have kk : Kept h₁ s₂.heap := (Kept.push _ _).trans S₂.kept
    have nC' : h₁.get? C = none := (Kept.push h₁ _).isNone nC
    have kk₃ : Kept h₁ h₃ := kk.sameBut nC' sb₃
    have g₃ := stays_extBut S₂.ground gC sb₃.extBut
    refine wpAny_tests_one (wpAny_isTrue_Compare1 ?_)
    refine name_local rfl rfl hm₃ (upd_same ..) ?_
    refine name_cell rfl rfl rfl (k_cell kk₃ hc) ?_
    refine in_ints (k_list (k.trans kk₃) hl) hns (wpAny_truthy_bool ⟨rfl, ?_⟩)
    cases hb : ns.contains i with
    | false =>
      simp only [Bool.false_eq_true, if_false]
      exact ⟨h₃, _, rfl, g₃, ⟨_, hm₃⟩, .of_extBut (List.mem_singleton.mpr rfl) sb₃.extBut⟩
    | true =>
      simp only [if_true]
      refine wpAny_BinOp (wpAny_Constant_int (name_local rfl rfl hm₃ (upd_same ..) (pow_two hi ⟨⟨_, rfl⟩, ?_⟩)))
      exact ⟨h₃, _, rfl, g₃, ⟨_, hm₃⟩, .of_extBut (List.mem_singleton.mpr rfl) sb₃.extBut⟩
  · intro D s' ys nD S' pD hp
    refine args_nil (sum_ints hh pD.isList (paired_ints (f := fun i => 2 ^ i) hp) fun h' tk' t' k' => ?_)
    refine ⟨?_, t', rfl⟩
    have S'' : Step G s s' := (S₁.trans (Step.of (G := G) gB (.push _ _))).trans S'
    exact S''.set (stays_keeps S''.ground k') (S''.kept.trans (.of_keeps k'))
end Mine

open PySem PySem.W PyProof.Rows
set_option Elab.async false
set_option maxRecDepth 100000
namespace Mine
open PySem.SeqAt PySem.Calls

section
variable {prog : Program} {w : World} {A : Around} {G : Heap} {E : Value → Shared → Prop} {s : Shared} {env : Env}

/-- an item of a list, by an index that is no cut -/
theorem sub_list {value slice : Expr} {pos : Pos} {Q : Value → Shared → Prop}
    (h : wpAny (model prog w) A (eval value env) (fun o s₁ => wpAny (model prog w) A (eval slice env) (fun i s₂ => ∃ l items k t x, o = .ref l ∧ i = .int k t ∧ s₂.heap.IsList l items ∧ 0 ≤ k ∧ k < 2 ^ 63 ∧ items[k.toNat]? = some x ∧ Q x s₂) E s₁) E s)
    (hsl : ∀ o i, subscripted slice false o i = operate [o, i] (getItem o i) := by intro _ _; rfl) :
    wpAny (model prog w) A (eval (.Subscript value slice pos) env) Q E s := by
  rw [eval_Subscript]
  refine wpAny_bind (wpAny_mono h (fun o s₁ h₁ => wpAny_bind (wpAny_holding (wpAny_mono h₁ (fun i s₂ h₂ => wpAny_bind (wpAny_standAt ?_)) fun _ _ x => x))) fun _ _ x => x)
  obtain ⟨l, items, k, t, x, rfl, rfl, hl, h0, h63, hx, hq⟩ := h₂
  refine wpAny_bind ?_
  rw [getitemInPython_of_ne hl.typeIs.not_modules]
  refine wpAny_bind (wpAny_specialOf hl.typeIs list_getitem_lookup ?_)
  have fin : wpAny (model prog w) A (subscripted slice false (.ref l) (.int k t)) (fun r s₃ => wpAny (model prog w) A (letTemporaryGo value (.ref l) r >>= fun _ => pure r) Q E s₃) E s₂ := by
    rw [hsl]
    exact wpAny_operating (wpAny_mono (wpAny_getItem_list hl h0 h63 hx hq) (fun r s₃ h₃ => wpAny_bind (wpAny_letTemporaryGo (wpAny_pure h₃))) fun _ _ x => x)
  first
    | exact wpAny_pure (wpAny_bind fin)
    | exact wpAny_bind (wpAny_pure (wpAny_bind fin))
    | exact wpAny_bind fin

theorem newEnv_k {M : Model} {scope : Scope} {globals : Addr} {cl : List (Str × Addr)} {qual : Str} {n0 kx n2 : Str} {Q : Env → Shared → Prop} (hnm : scope.names = [(n0, .local), (kx, .cell), (n2, .free)])
    (h : Q { scope, locals := s.heap.objs.size, globals, cells := (kx, s.heap.objs.size + 1) :: cl, qual, func := none, code := env.code, frame := env.frame, builtins := env.builtins }
      { s with heap := (s.heap.push { cls := .type "dict", data := .dict #[] }).push { cls := .type "cell", data := .cell none } }) :
    wpAny M A (newFunctionEnv scope globals cl [] qual none .none (some env)) Q E s := by
  unfold newFunctionEnv
  refine wpAny_bind (wpAny_alloc ?_)
  rw [hnm]
  simp only [List.forIn_cons, List.forIn_nil, Option.isSome_some, if_true]
  refine wpAny_bind ?_
  refine wpAny_bind (wpAny_pure ?_)
  refine wpAny_bind (wpAny_bind (wpAny_alloc (wpAny_pure ?_)))
  refine wpAny_bind (wpAny_pure ?_)
  refine wpAny_pure ?_
  refine wpAny_bind (wpAny_pure ?_)
  refine wpAny_pure ?_
  simpa using h

/-- a turn of a comprehension over a range whose name is a cell of its block -/
def TurnK (prog : Program) (w : World) (A : Around) (G : Heap) (sB : Shared) (env : Env) (scope : Scope) (cl : List (Str × Addr)) (kx : Str) (kp : Pos) (elt : Expr) (ifs : List Expr) (n : Nat) (t : Nat → Bool) (Y : Nat → Value → Prop) : Prop :=
  ∀ C ck i tk (s₁ : Shared) m o (E' : Value → Shared → Prop), sB.heap.get? C = none → sB.heap.get? ck = none → ck ≠ C → i < n → Step G sB s₁ → s₁.heap.Ns C m → s₁.heap.IsCell ck o →
    wpAny (model prog w) A (assign (.Name kx kp) (compEnvC scope ((kx, ck) :: cl) C env) (.int (i : Nat) tk)) (fun _ s₂ => wpAny (model prog w) A (tests ifs (compEnvC scope ((kx, ck) :: cl) C env)) (fun ok s₃ => ok = t i ∧
      if ok = true then wpAny (model prog w) A (eval elt (compEnvC scope ((kx, ck) :: cl) C env)) (fun y s₄ => Y i y ∧ After G [C, ck] (fun h => (∃ m, h.Ns C m) ∧ ∃ o, h.IsCell ck o) s₁ s₄) E' s₃
      else After G [C, ck] (fun h => (∃ m, h.Ns C m) ∧ ∃ o, h.IsCell ck o) s₁ s₃) E' s₂) E' s₁

theorem comp_blockK {elt iter : Expr} {ifs : List Expr} {scope : Scope} {cl : List (Str × Addr)} {pos : Pos} {n0 kx n2 : Str} {kp : Pos} {sB : Shared} {r : Addr} {n : Nat} {t' u' v' : Tok}
    {RR : Value → Addr → Result → Shared → Prop} (hh : A.handled = none) (hr : IsRange sB.heap r 0 (n : Int) 1 t' u' v') (t : Nat → Bool) (Y : Nat → Value → Prop) (hsz : n ≤ 100000)
    (gB : G.StaysIn sB.heap) (hnm : scope.names = [(n0, .local), (kx, .cell), (n2, .free)])
    (turn : TurnK prog w A G sB env scope cl kx kp elt ifs n t Y)
    (hRR : ∀ D C s' ys, sB.heap.get? D = none → sB.heap.get? C = none → D ≠ C → Step G sB s' → (∃ m, s'.heap.Ns C m) → PlainL s'.heap D (ys : List Value).toArray → Paired Y ((List.range n).filter t) ys → RR (.ref D) C (.ok .next) s') :
    wpAny (model prog w) A (pyIter (.ref r)) (fun it s₂ => wpAny (model prog w) A (newList []) (fun acc s₃ => wpAny (model prog w) A (newFunctionEnv scope env.globals cl [] env.qual none .none (some env)) (fun cenv s₄ =>
      codeAny (model prog w) A (.compStart (.ListComp elt [⟨.Name kx kp, iter, ifs, 0⟩] scope pos) 0 it acc { cenv with scope := relabel scope env }) (RR acc cenv.locals) s₄) E s₃) E s₂) E sB := by
  have hz : Builtin.Range.rangeSize 0 (n : Int) 1 = (n : Int) := by rw [rangeSize_one]; split <;> omega
  have hb : (n : Int) < 2 ^ 62 := Int.lt_of_le_of_lt (show (n : Int) ≤ 100000 by omega) (by decide)
  refine wpAny_pyIter_range hr (small_one (by decide) (by decide) (Int.le_trans (show -(2 ^ 62 : Int) ≤ 0 by decide) (by omega)) hb) ?_
  rw [hz]
  have W := PyProof.Rows.LCg.range_walks (prog := prog) (w := w) (I := sB.heap.objs.size) hh 0 n
  have W' : Walks prog w A sB.heap.objs.size [sB.heap.objs.size] [sB.heap.objs.size] n (fun i v => ∃ t, v = .int ((i : Nat) : Int) t) (fun i h => IsRangeIter h sB.heap.objs.size (0 + (i : Nat) * 1) ((n : Int) - (i : Nat)) 1) := by
    simpa using W
  have nI : sB.heap.get? sB.heap.objs.size = none := none_size _
  have hI : IsRangeIter (sB.heap.push { cls := .type "range_iterator", data := .fields #[rawInt 0, rawInt n, rawInt 1] }) sB.heap.objs.size (0 + ((0 : Nat) : Int) * 1) ((n : Int) - ((0 : Nat) : Int)) 1 := by
    show Heap.get? _ _ = _
    simpa using Heap.get?_push_size (h := sB.heap) (o := { cls := .type "range_iterator", data := .fields #[rawInt 0, rawInt n, rawInt 1] }) rfl
  generalize sB.heap.objs.size = I at *
  generalize hH : sB.heap.push { cls := .type "range_iterator", data := .fields #[rawInt 0, rawInt n, rawInt 1] } = H1 at *
  have kI : ∀ b o, sB.heap.get? b = some o → H1.get? b = some o := fun b o e => hH ▸ Heap.get?_push_of_some _ e
  refine wpAny_newObj_type (newEnv_k hnm ?_)
  dsimp only
  have nD : sB.heap.get? H1.objs.size = none := (Kept.of_keeps kI).isNone (none_size _)
  have pD : PlainL (H1.push { cls := .type "list", dict := none, data := .seq ([] : List Value).toArray }) H1.objs.size #[] := ⟨_, _, Heap.get?_push_size _ rfl, rfl, rfl, rfl⟩
  have kD : ∀ b o, H1.get? b = some o → (H1.push { cls := .type "list", dict := none, data := .seq ([] : List Value).toArray }).get? b = some o := fun b o e => Heap.get?_push_of_some _ e
  have hDI : H1.objs.size ≠ I := Nat.ne_of_gt (Heap.lt_size (show H1.get? I = some _ from hI))
  generalize H1.objs.size = D at *
  generalize H1.push { cls := .type "list", dict := none, data := .seq ([] : List Value).toArray } = H2 at *
  have nC : sB.heap.get? H2.objs.size = none := (Kept.of_keeps fun b o e => kD b o (kI b o e)).isNone (none_size _)
  have nck : sB.heap.get? (H2.objs.size + 1) = none := (Kept.of_keeps fun b o e => kD b o (kI b o e)).isNone (Heap.get?_none_of_le (Nat.le_succ _))
  have hns : ((H2.push { cls := .type "dict", data := .dict #[] }).push { cls := .type "cell", data := .cell none }).Ns H2.objs.size (fun _ => none) := (Heap.Ns.new H2 (.type "dict")).push _
  have hcell : ((H2.push { cls := .type "dict", data := .dict #[] }).push { cls := .type "cell", data := .cell none }).IsCell (H2.objs.size + 1) none := by
    refine ⟨{ cls := .type "cell", data := .cell none }, ?_, rfl⟩
    have := Heap.get?_push_size (h := H2.push { cls := .type "dict", data := .dict #[] }) (o := { cls := .type "cell", data := .cell none }) rfl
    rwa [Heap.size_push] at this
  have kC : ∀ b o, H2.get? b = some o → ((H2.push { cls := .type "dict", data := .dict #[] }).push { cls := .type "cell", data := .cell none }).get? b = some o := fun b o e => Heap.get?_push_of_some _ (Heap.get?_push_of_some _ e)
  have hckC : H2.objs.size + 1 ≠ H2.objs.size := Nat.succ_ne_self _
  have lD : D < H2.objs.size := by obtain ⟨o, _, e, _⟩ := pD; exact Heap.lt_size e
  have lI : I < H2.objs.size := Heap.lt_size (kD _ _ (show H1.get? I = some _ from hI))
  have hDC : D ≠ H2.objs.size := Nat.ne_of_lt lD
  have hIC : I ≠ H2.objs.size := Nat.ne_of_lt lI
  have hDck : D ≠ H2.objs.size + 1 := Nat.ne_of_lt (Nat.lt_succ_of_lt lD)
  have hIck : I ≠ H2.objs.size + 1 := Nat.ne_of_lt (Nat.lt_succ_of_lt lI)
  clear lD lI
  generalize H2.objs.size + 1 = ck at *
  generalize H2.objs.size = C at *
  generalize (H2.push { cls := .type "dict", data := .dict #[] }).push { cls := .type "cell", data := .cell none } = h₁ at *
  have keep : ∀ b o, sB.heap.get? b = some o → h₁.get? b = some o := fun b o e => kC b o (kD b o (kI b o e))
  have S₁ : Step G sB { sB with heap := h₁ } := .of (stays_keeps gB keep) (.of_keeps keep)
  have hst₁ : IsRangeIter h₁ I (0 + ((0 : Nat) : Int) * 1) ((n : Int) - ((0 : Nat) : Int)) 1 := kC _ _ (kD _ _ hI)
  have loop : codeAny (model prog w) A (.compLoop (.ListComp elt [⟨.Name kx kp, iter, ifs, 0⟩] scope pos) 0 (.ref I) (.ref D) (compEnvC scope ((kx, ck) :: cl) C env)) (RR (.ref D) C) { sB with heap := h₁ } := by
    refine comp_loop (X := [C, ck]) (XI := fun h => (∃ m, h.Ns C m) ∧ ∃ o, h.IsCell ck o) W' t Y hsz gB nI nD ?_ nd_range ?_ ?_ ?_ (by simp)
      (fun h h' x k => ?_) (fun i v s₁ E' hi hv S x => ?_) hst₁ (pD.keeps kC) ⟨⟨_, hns⟩, _, hcell⟩ S₁ (fun s' ys S x p q => hRR D C s' ys nD nC hDC S x.1 p q) owns_name
    · intro b hb; simp at hb; rcases hb with rfl | rfl <;> assumption
    · intro b hb
      simp only [List.mem_cons, List.not_mem_nil, or_false] at hb ⊢
      rcases hb with rfl | rfl
      · exact fun q => hIC q.symm
      · exact fun q => hIck q.symm
    · simp only [List.mem_cons, List.not_mem_nil, or_false, not_or]
      exact ⟨hDC, hDck⟩
    · simpa using hDI
    · obtain ⟨⟨m, hm⟩, o, ho⟩ := x
      refine ⟨⟨m, hm.at' fun o e => k C (by simp) o e⟩, o, ?_⟩
      obtain ⟨oc, e, hd⟩ := ho
      exact ⟨oc, k ck (by simp) oc e, hd⟩
    · obtain ⟨⟨m, hm⟩, o, ho⟩ := x
      obtain ⟨tk, rfl⟩ := hv
      exact turn C ck i tk s₁ m o E' nC nck hckC hi S hm ho
  exact codeAny_compStart_list loop (W'.self 0 _ _ _ hst₁ loop)

theorem comp_assignK {elt iter : Expr} {ifs : List Expr} {scope : Scope} {cl : List (Str × Addr)} {pos spos : Pos} {n0 kx n2 y : Str} {kp py : Pos} {Q : Flow → Shared → Prop} (hh : A.handled = none)
    (hsw : swapsWith (.ListComp elt [⟨.Name kx kp, iter, ifs, 0⟩] scope pos) (some (.Name y py)) spos.line env = pure true)
    (hclos : closureFor scope env = pure cl) (hnm : scope.names = [(n0, .local), (kx, .cell), (n2, .free)]) (hkind : scope.kind = .function) (hnames : ∀ y ∈ scope.names, y.2 = .local → scope.names.lookup y.1 = some .local)
    (hy : env.kindOf y = some .local) (hk : env.scope.kind = .function)
    (h : wpAny (model prog w) A (eval iter env) (fun x sB => ∃ r n t' u' v' t Y m, x = .ref r ∧ IsRange sB.heap r 0 ((n : Nat) : Int) 1 t' u' v' ∧ n ≤ 100000 ∧ G.StaysIn sB.heap ∧
      TurnK prog w A G sB env scope cl kx kp elt ifs n t Y ∧ sB.heap.Ns env.locals m ∧
      ∀ D s' ys, sB.heap.get? D = none → After G [env.locals] (fun h => h.Ns env.locals (upd m y (.ref D))) sB s' → PlainL s'.heap D (ys : List Value).toArray → Paired Y ((List.range n).filter t) ys → Q .next s') E s)
    (gL : G.get? env.locals = none) (hs : ∀ x, foldedSetIterable iter env x = pure x := by intro _; rfl) :
    wpAny (model prog w) A (exec (.Assign [.Name y py] (.ListComp elt [⟨.Name kx kp, iter, ifs, 0⟩] scope pos) spos) env) Q E s := by
  rw [exec_Assign_Name_used _ _ _ _ hsw]
  refine wpAny_bind (wpAny_standAt (wpAny_bind ?_))
  show wpAny _ A (do let _ ← comprehension (.ListComp elt [⟨.Name kx kp, iter, ifs, 0⟩] scope pos) scope env _ (newList []) false (eval iter env) (some (assign (.Name y py) env))) _ _ s
  refine wpAny_bind (wpAny_mono (wpAny_comprehension_free (use := some (assign (.Name y py) env)) (Q := fun _ s' => Q .next s') rfl hs hclos hkind hnames
    (wpAny_mono h (fun x sB h₁ => ?_) fun _ _ e => e)) (fun _ s' hq => wpAny_pure (wpAny_pure hq)) fun _ _ e => e)
  obtain ⟨r, n, t', u', v', t, Y, m, rfl, hr, hn, gB, turn, hm, hQ⟩ := h₁
  refine comp_blockK (RR := fun acc C => compPost (model prog w) A E (some (assign (.Name y py) env)) (fun _ s' => Q .next s') acc C) hh hr t Y hn gB hnm turn ?_
  intro D C s' ys nD nC hDC st x p q
  obtain ⟨mC, hmC⟩ := x
  have hmL := k_ns st.kept hm
  have hLC : env.locals ≠ C := by rintro e; obtain ⟨o, _, _, ho, _⟩ := hm; rw [e, nC] at ho; cases ho
  have hLD : env.locals ≠ D := by rintro e; obtain ⟨o, _, _, ho, _⟩ := hm; rw [e, nD] at ho; cases ho
  show wpAny _ A (assign (.Name y py) env (.ref D)) _ _ _
  refine wpAny_assign_Name (store_local hk hy hmL fun h₂ hn₂ sb₂ => ?_)
  refine ⟨mC, hmC.sameBut sb₂ (Ne.symm hLC), fun h₃ sb₃ => hQ D _ ys nD ?_ ((p.extBut sb₂.extBut (Ne.symm hLD)).extBut sb₃.extBut hDC) q⟩
  obtain ⟨h', tk, rfl, g, k⟩ := st
  refine ⟨h₃, _, rfl, stays_extBut (stays_extBut g gL sb₂.extBut) (stays_none gB nC) sb₃.extBut, hn₂.sameBut sb₃ hLC, ?_⟩
  intro b o hb e
  obtain ⟨o', e', l⟩ := k b o e
  exact ⟨o', sb₃.extBut b o' (fun q => by rw [q, nC] at e; cases e) (sb₂.extBut b o' (fun q => hb (by simp [q])) e'), l⟩
end
end Mine

open PySem PySem.W PyProof.Rows
set_option Elab.async false
namespace Mine
/-! plain facts of the first things of each kind -/
def kd (is : List Nat) (j : Nat) : Nat := kind (is.getD j 0)
/-- no thing ahead of place `i` is of its kind -/
def firstAt (is : List Nat) (i : Nat) : Bool := (List.range i).all fun j => !(kd is j == kd is i)
def firsts (is : List Nat) : List Nat := ((List.range is.length).filter (firstAt is)).map fun j => is.getD j 0

theorem ded_any (k : Nat) : ∀ (l acc : List Nat), (ded acc l).any (fun j => kind j == k) = (acc.any (fun j => kind j == k) || l.any (fun j => kind j == k))
  | [], acc => by simp [ded]
  | i :: r, acc => by
    simp only [ded]
    split
    · rename_i h
      rw [ded_any k r acc, List.any_cons]
      by_cases q : kind i = k
      · have : acc.any (fun j => kind j == k) = true := by rw [← q]; exact h
        simp [this]
      · have : (kind i == k) = false := by simpa using q
        rw [this, Bool.false_or]
    · rw [ded_any k r (acc ++ [i]), List.any_append, List.any_cons, List.any_cons, List.any_nil, Bool.or_false, Bool.or_assoc]

theorem kd_append {is : List Nat} {i j : Nat} (h : j < is.length) : kd (is ++ [i]) j = kd is j := by
  unfold kd
  rw [List.getD_eq_getElem?_getD, List.getD_eq_getElem?_getD, List.getElem?_append_left h]
theorem kd_last (is : List Nat) (i : Nat) : kd (is ++ [i]) is.length = kind i := by
  unfold kd; simp [List.getD_eq_getElem?_getD]
theorem any_range (is : List Nat) (k : Nat) : is.any (fun j => kind j == k) = (List.range is.length).any fun j => kd is j == k := by
  rw [Bool.eq_iff_iff]
  simp only [List.any_eq_true, List.mem_range, beq_iff_eq]
  constructor
  · rintro ⟨x, hx, e⟩
    obtain ⟨j, hj, rfl⟩ := List.getElem_of_mem hx
    exact ⟨j, hj, by unfold kd; rw [List.getD_eq_getElem?_getD, List.getElem?_eq_getElem hj]; exact e⟩
  · rintro ⟨j, hj, e⟩
    refine ⟨is[j], List.getElem_mem hj, ?_⟩
    unfold kd at e
    rw [List.getD_eq_getElem?_getD, List.getElem?_eq_getElem hj] at e
    exact e
theorem firsts_snoc (is : List Nat) (i : Nat) : firsts (is ++ [i]) = firsts is ++ (if is.any (fun j => kind j == kind i) then [] else [i]) := by
  unfold firsts
  rw [List.length_append, List.length_singleton, range_filter_succ, List.map_append]
  congr 1
  · have e : (List.range is.length).filter (firstAt (is ++ [i])) = (List.range is.length).filter (firstAt is) := by
      apply List.filter_congr
      intro j hj
      have hj' := List.mem_range.mp hj
      unfold firstAt
      rw [Bool.eq_iff_iff]
      simp only [List.all_eq_true, List.mem_range]
      constructor
      · intro h a ha
        have := h a ha
        rwa [kd_append (by omega), kd_append hj'] at this
      · intro h a ha
        rw [kd_append (by omega), kd_append hj']
        exact h a ha
    rw [e]
    apply List.map_congr_left
    intro j hj
    have hj' := List.mem_range.mp (List.mem_filter.mp hj).1
    rw [List.getD_eq_getElem?_getD, List.getD_eq_getElem?_getD, List.getElem?_append_left hj']
  · have e : firstAt (is ++ [i]) is.length = !(is.any fun j => kind j == kind i) := by
      rw [any_range]
      unfold firstAt
      rw [kd_last, List.not_any_eq_all_not]
      apply Bool.eq_iff_iff.mpr
      simp only [List.all_eq_true, List.mem_range]
      constructor
      · intro h a ha; have := h a ha; rwa [kd_append ha] at this
      · intro h a ha; rw [kd_append ha]; exact h a ha
    rw [e]
    cases is.any fun j => kind j == kind i <;> simp [List.getD_eq_getElem?_getD]
theorem ded_firsts (is : List Nat) : ded [] is = firsts is := by
  have key : ∀ n, n ≤ is.length → ded [] (is.take n) = firsts (is.take n) := by
    intro n
    induction n with
    | zero => intro _; rfl
    | succ n ih =>
      intro hn
      have e : is.take (n + 1) = is.take n ++ [is[n]] := by rw [List.take_add_one, List.getElem?_eq_getElem (by omega)]; rfl
      rw [e, ded_snoc, firsts_snoc, ← ih (by omega), ded_any]
      simp only [List.any_nil, Bool.false_or]
      cases (is.take n).any fun j => kind j == kind is[n] <;> simp
  have := key is.length (Nat.le_refl _)
  rwa [List.take_length] at this
end Mine

open PySem PySem.W PyProof.Rows
set_option Elab.async false
set_option maxRecDepth 100000
namespace Mine
open PySem.SeqAt PySem.Calls

theorem getD_of {is : List Nat} {j i : Nat} (h : is[j]? = some i) : is.getD j 0 = i := by rw [List.getD_eq_getElem?_getD, h]; rfl
theorem kd_of {is : List Nat} {j i : Nat} (h : is[j]? = some i) : kd is j = kind i := by unfold kd; rw [getD_of h]

/-- values paired with places, as things -/
theorem paired_things {h : Heap} {f : Nat → Nat} {l : List Nat} {ys : List Value} (x : Paired (fun i y => f i < 10 ∧ Thing h y (f i)) l ys) : Things h ys (l.map f) := by
  induction x with
  | nil => exact .nil
  | cons q _ ih => exact .cons q.1 q.2 ih
theorem paired_pairs {h : Heap} {f : Nat → Nat} {l : List Nat} {ys : List Value} (x : Paired (fun i y => Pair h y (f i)) l ys) : PairsAt h ys (l.map f) := by
  induction x with
  | nil => exact .nil
  | cons q _ ih => exact .cons q ih
/-- texts -/
inductive Texts : List Value → List Str → Prop
  | nil : Texts [] []
  | cons {t : Tok} {x : Str} {vs : List Value} {xs : List Str} : Texts vs xs → Texts (.str x t :: vs) (x :: xs)
theorem paired_texts {f : Nat → Str} {l : List Nat} {ys : List Value} (x : Paired (fun i y => ∃ t, y = Value.str (f i) t) l ys) : Texts ys (l.map f) := by
  induction x with
  | nil => exact .nil
  | cons q _ ih => obtain ⟨t, rfl⟩ := q; exact .cons ih
theorem Texts.length {vs : List Value} {xs : List Str} (x : Texts vs xs) : vs.length = xs.length := by
  induction x with
  | nil => rfl
  | cons _ ih => simp [ih]
theorem Texts.get {vs : List Value} {xs : List Str} (x : Texts vs xs) : ∀ {j : Nat} {v : Value}, vs[j]? = some v → ∃ y t, xs[j]? = some y ∧ v = .str y t := by
  induction x with
  | nil => intro j v e; simp at e
  | cons _ ih =>
    intro j v e
    cases j with
    | zero => simp at e; subst e; exact ⟨_, _, rfl, rfl⟩
    | succ j => exact ih (by simpa using e)
theorem map_range_getD (is : List Nat) : (List.range is.length).map (fun j => is.getD j 0) = is := by
  apply List.ext_getElem
  · simp
  · intro i h1 h2; simp [List.getD_eq_getElem?_getD, List.getElem?_eq_getElem h2]
theorem filter_true (l : List Nat) : l.filter (fun _ => true) = l := by simp

section
variable {prog : Program} {w : World} {A : Around} {E : Value → Shared → Prop} {s : Shared}
/-- two lists of texts compared -/
theorem texts_eq {a b : Addr} {us vs : List Value} {xs ys : List Str} {Q : Value → Shared → Prop} (ha : s.heap.IsList a us.toArray) (hb : s.heap.IsList b vs.toArray) (x : Texts us xs) (y : Texts vs ys) (hu : A.units + 20 < 9900)
    (h : Q (.bool (decide (xs = ys))) s) : wpAny (model prog w) A (compareOp .Eq (.ref a) (.ref b)) Q E s := by
  have hl : A.units < cLine := by show _ < 9900; omega
  by_cases hz : us.length = vs.length
  · refine eq_listAt (e := fun j => xs.getD j "" == ys.getD j "") ha hb (by simpa using hz) hl (fun j h1 h2 => ?_) ?_
    · simp only [List.size_toArray] at h1 h2
      obtain ⟨p, t, e1, e1'⟩ := x.get (List.getElem?_eq_getElem h1)
      obtain ⟨q, u, e2, e2'⟩ := y.get (List.getElem?_eq_getElem h2)
      simp only [List.getElem_toArray]
      rw [e1', e2', List.getD_eq_getElem?_getD, List.getD_eq_getElem?_getD, e1, e2]
      exact EqAt.str_str _ _ _ _
    · have : ((List.range us.toArray.size).all fun j => xs.getD j "" == ys.getD j "") = decide (xs = ys) := by
        rw [Bool.eq_iff_iff]
        simp only [List.size_toArray, List.all_eq_true, List.mem_range, beq_iff_eq, decide_eq_true_eq]
        constructor
        · intro q
          apply List.ext_getElem
          · rw [← x.length, ← y.length]; exact hz
          · intro i h1 h2
            have := q i (by rw [x.length]; exact h1)
            simpa [List.getD_eq_getElem?_getD, List.getElem?_eq_getElem h1, List.getElem?_eq_getElem h2] using this
        · rintro rfl j _; rfl
      rw [this]; exact h
  · refine eq_list_lengthsAt ha hb (by simpa using hz) hl ?_
    have : decide (xs = ys) = false := decide_eq_false fun q => hz (by rw [x.length, y.length, q])
    rw [this] at h; exact h
/-- a list compared with the empty one -/
theorem empty_eq {a b : Addr} {us : List Value} {Q : Value → Shared → Prop} (ha : s.heap.IsList a us.toArray) (hb : s.heap.IsList b ([] : List Value).toArray) (hu : A.units + 20 < 9900)
    (h : Q (.bool us.isEmpty) s) : wpAny (model prog w) A (compareOp .Eq (.ref a) (.ref b)) Q E s := by
  have hl : A.units < cLine := by show _ < 9900; omega
  cases us with
  | nil => exact eq_listAt (e := fun _ => true) ha hb rfl hl (fun j h1 _ => absurd h1 (by simp)) h
  | cons x r => exact eq_list_lengthsAt ha hb (by simp) hl h
end
end Mine

open PySem PySem.W PyProof.Rows
set_option Elab.async false
set_option maxRecDepth 100000
namespace Mine
open PySem.SeqAt PySem.Calls

theorem store_cell {prog : Program} {w : World} {A : Around} {E : Value → Shared → Prop} {s : Shared} {env : Env} {x : Str} {c : Addr} {v : Value} {o : Option Value} {Q : Unit → Shared → Prop} (hk : env.scope.kind = .function) (hx : env.kindOf x = some .cell) (hc : env.cells.lookup x = some c) (hv : s.heap.IsCell c o)
    (h : ∀ h', h'.IsCell c (some v) → Heap.SameBut c s.heap h' → Q () { s with heap := h' }) : wpAny (model prog w) A (storeName env x v) Q E s := wpAny_storeName_cell hk hx hc hv h
theorem ne_cell_ns {h : Heap} {c C : Addr} {o : Option Value} {m : Str → Option Value} (x : h.IsCell c o) (y : h.Ns C m) : c ≠ C := by
  rintro rfl; obtain ⟨o1, h1, d1⟩ := x; obtain ⟨o2, es, ep, h2, d2, _⟩ := y; rw [h1] at h2; cases h2; rw [d1] at d2; cases d2

theorem After.of_but {G : Heap} {C : Addr} {m : Str → Option Value} {s : Shared} {h' : Heap} {tk : Nat} (g : G.StaysIn h') (hm : h'.Ns C m) (k : KeptBut [C] s.heap h') : After G [C] (fun h => ∃ m, h.Ns C m) s { s with heap := h', toks := tk } :=
  ⟨h', tk, rfl, g, ⟨m, hm⟩, k⟩

theorem map_range_map {α : Type} (f : Nat → α) (is : List Nat) : (List.range is.length).map (fun i => f (is.getD i 0)) = is.map f := by
  have := congrArg (List.map f) (map_range_getD is)
  rwa [List.map_map] at this

section
variable {prog : Program} {w : World} {A : Around} {E : Value → Shared → Prop} {env : Env} {G : Heap} {s : Shared} {scope : Scope} {cl : List (Str × Addr)}

/-- the value `v` shows as `x` wherever the heap `h` is kept -/
def Shows (prog : Program) (w : World) (A : Around) (h : Heap) (v : Value) (x : Str) : Prop :=
  ∀ (s : Shared) (E : Value → Shared → Prop) (Q : Value → Shared → Prop), Kept h s.heap → (∀ h' u tk, (∀ b o, s.heap.get? b = some o → h'.get? b = some o) → Q (.str x u) { s with heap := h', toks := tk }) → wpAny (model prog w) A (call (.type "str") [v]) Q E s
theorem shows_thing {h : Heap} {v : Value} {i : Nat} (hg : A.guards = some []) (hu : A.units + 20 < 9900) (hi : i < 10) (x : Thing h v i) : Shows prog w A h v (txt i) :=
  fun _ _ _ k hQ => thing_str hi (k_thing k x) hg hu hQ

/-- `[thing for thing, kind in ..]` -/
theorem comp_things {pt pk p1 pos : Pos} {k0 : Nat} {pn : Pos} {iter : Expr} {Q : Value → Shared → Prop} (hh : A.handled = none)
    (hclos : closureFor scope env = pure cl) (hcell : ∀ y ∈ scope.names, y.2 ≠ .cell) (hkind : scope.kind = .function) (hnames : ∀ y ∈ scope.names, y.2 = .local → scope.names.lookup y.1 = some .local)
    (hk : ∀ C, (compEnvC scope cl C env).scope.kind = .function) (ha : ∀ C, (compEnvC scope cl C env).kindOf "thing" = some .local) (hb : ∀ C, (compEnvC scope cl C env).kindOf "kind" = some .local)
    (h : wpAny (model prog w) A (eval iter env) (fun x sB => ∃ a vs is h0, x = .ref a ∧ sB.heap.IsList a (vs : List Value).toArray ∧ Kept h0 sB.heap ∧ PairsAt h0 vs is ∧ vs.length ≤ 1000 ∧ G.StaysIn sB.heap ∧
      ∀ D s' ys, sB.heap.get? D = none → Step G sB s' → PlainL s'.heap D (ys : List Value).toArray → Things h0 ys is → Q (.ref D) s') E s)
    (hs : ∀ x, foldedSetIterable iter env x = pure x := by intro _; rfl) :
    wpAny (model prog w) A (eval (.ListComp (.Name "thing" pn) [⟨.Tuple [.Name "thing" pt, .Name "kind" pk] k0 p1, iter, [], 0⟩] scope pos) env) Q E s := by
  refine comp_value (G := G) (cl := cl) hh hclos hcell hkind hnames (wpAny_mono h (fun x sB h₁ => ?_) fun _ _ e => e) hs
  obtain ⟨a, vs, is, h0, rfl, hl, k0, hp, hz, gB, hQ⟩ := h₁
  refine ⟨vs.length, _, fun _ => true, fun i y => is.getD i 0 < 10 ∧ Thing h0 y (is.getD i 0), .list rfl hl, by omega, gB, .inr ⟨⟨_, _, _, rfl⟩, ?_⟩, ?_, ?_⟩
  · intro i v hv
    obtain ⟨j, _, q⟩ := hp.get hv
    obtain ⟨_, p, x, t, rfl, _⟩ := q
    exact ⟨p, rfl⟩
  · intro C i v s₁ m E' nC hi hv S₁ hm
    obtain ⟨j, hj, q⟩ := hp.get hv
    obtain ⟨hj10, p, x, t, rfl, pl, ht⟩ := q
    refine assign_pair (G := G) hh (k_plainL (k0.trans S₁.kept) pl).isList (hk C) (ha C) (hb C) hm S₁.ground (stays_none gB nC) fun h' tk hn kb g' => ?_
    refine wpAny_tests_nil ⟨rfl, ?_⟩
    simp only [if_true]
    refine name_local (hk C) (ha C) hn (v := x) (by rw [upd_ne _ _ (by decide)]; exact upd_same ..) ⟨?_, After.of_but g' hn kb⟩
    rw [getD_of hj]; exact ⟨hj10, ht⟩
  · intro D s' ys nD S' pD hpd
    refine hQ D s' ys nD S' pD ?_
    have := paired_things (h := h0) (f := fun i => is.getD i 0) hpd
    rwa [filter_true, hp.length, map_range_getD] at this

/-- `[kind for thing, kind in ..]` -/
theorem comp_kinds {pt pk p1 pos : Pos} {k0 : Nat} {pn : Pos} {iter : Expr} {Q : Value → Shared → Prop} (hh : A.handled = none)
    (hclos : closureFor scope env = pure cl) (hcell : ∀ y ∈ scope.names, y.2 ≠ .cell) (hkind : scope.kind = .function) (hnames : ∀ y ∈ scope.names, y.2 = .local → scope.names.lookup y.1 = some .local)
    (hk : ∀ C, (compEnvC scope cl C env).scope.kind = .function) (ha : ∀ C, (compEnvC scope cl C env).kindOf "thing" = some .local) (hb : ∀ C, (compEnvC scope cl C env).kindOf "kind" = some .local)
    (h : wpAny (model prog w) A (eval iter env) (fun x sB => ∃ a vs is, x = .ref a ∧ sB.heap.IsList a (vs : List Value).toArray ∧ PairsAt sB.heap vs is ∧ vs.length ≤ 1000 ∧ G.StaysIn sB.heap ∧
      ∀ D s' ys, sB.heap.get? D = none → Step G sB s' → PlainL s'.heap D (ys : List Value).toArray → Ints ys (is.map kind) → Q (.ref D) s') E s)
    (hs : ∀ x, foldedSetIterable iter env x = pure x := by intro _; rfl) :
    wpAny (model prog w) A (eval (.ListComp (.Name "kind" pn) [⟨.Tuple [.Name "thing" pt, .Name "kind" pk] k0 p1, iter, [], 0⟩] scope pos) env) Q E s := by
  refine comp_value (G := G) (cl := cl) hh hclos hcell hkind hnames (wpAny_mono h (fun x sB h₁ => ?_) fun _ _ e => e) hs
  obtain ⟨a, vs, is, rfl, hl, hp, hz, gB, hQ⟩ := h₁
  refine ⟨vs.length, _, fun _ => true, fun i y => ∃ t, y = Value.int ((kd is i : Nat) : Int) t, .list rfl hl, by omega, gB, .inr ⟨⟨_, _, _, rfl⟩, ?_⟩, ?_, ?_⟩
  · intro i v hv
    obtain ⟨j, _, q⟩ := hp.get hv
    obtain ⟨_, p, x, t, rfl, _⟩ := q
    exact ⟨p, rfl⟩
  · intro C i v s₁ m E' nC hi hv S₁ hm
    obtain ⟨j, hj, q⟩ := hp.get hv
    obtain ⟨hj10, p, x, t, rfl, pl, ht⟩ := q
    refine assign_pair (G := G) hh (k_plainL S₁.kept pl).isList (hk C) (ha C) (hb C) hm S₁.ground (stays_none gB nC) fun h' tk hn kb g' => ?_
    refine wpAny_tests_nil ⟨rfl, ?_⟩
    simp only [if_true]
    refine name_local (hk C) (hb C) hn (upd_same ..) ⟨⟨t, ?_⟩, After.of_but g' hn kb⟩
    rw [kd_of hj]
  · intro D s' ys nD S' pD hpd
    refine hQ D s' ys nD S' pD ?_
    have := paired_ints (f := fun i => kd is i) hpd
    rw [filter_true, hp.length] at this
    rwa [show (List.range is.length).map (fun i => kd is i) = is.map kind from map_range_map kind is] at this

/-- `[str(x) for x in ..]` -/
theorem comp_strs {mg mb : Str → Option Value} {x : Str} {px pa pf pc pos : Pos} {iter : Expr} {Q : Value → Shared → Prop} (gd : Gd G mg mb) (hh : A.handled = none)
    (hclos : closureFor scope env = pure cl) (hcell : ∀ y ∈ scope.names, y.2 ≠ .cell) (hkind : scope.kind = .function) (hnames : ∀ y ∈ scope.names, y.2 = .local → scope.names.lookup y.1 = some .local)
    (hk : ∀ C, (compEnvC scope cl C env).scope.kind = .function) (ha : ∀ C, (compEnvC scope cl C env).kindOf x = some .local) (hb : ∀ C, (compEnvC scope cl C env).kindOf "str" = some .globalImplicit)
    (hgl : ∀ C, (compEnvC scope cl C env).globals = mainGlobals) (hbl : ∀ C, (compEnvC scope cl C env).builtins = builtinsNs) (hx : (x == ("__debug__" : Str)) = false)
    (h : wpAny (model prog w) A (eval iter env) (fun v sB => ∃ a vs f, v = .ref a ∧ sB.heap.IsList a (vs : List Value).toArray ∧ (∀ i y, vs[i]? = some y → Shows prog w A sB.heap y (f i)) ∧ vs.length ≤ 1000 ∧ G.StaysIn sB.heap ∧
      ∀ D s' ys, sB.heap.get? D = none → Step G sB s' → PlainL s'.heap D (ys : List Value).toArray → Texts ys ((List.range vs.length).map f) → Q (.ref D) s') E s)
    (hs : ∀ x, foldedSetIterable iter env x = pure x := by intro _; rfl) (he : ∀ C, starEach [.Name x pa] (compEnvC scope cl C env) = [(false, eval (.Name x pa) (compEnvC scope cl C env))] := by intro _; rfl) :
    wpAny (model prog w) A (eval (.ListComp (.Call (.Name "str" pf) [.Name x pa] [] pc) [⟨.Name x px, iter, [], 0⟩] scope pos) env) Q E s := by
  refine comp_value (G := G) (cl := cl) hh hclos hcell hkind hnames (wpAny_mono h (fun v sB h₁ => ?_) fun _ _ e => e) hs
  obtain ⟨a, vs, f, rfl, hl, hp, hz, gB, hQ⟩ := h₁
  refine ⟨vs.length, _, fun _ => true, fun i y => ∃ t, y = Value.str (f i) t, .list rfl hl, by omega, gB, .inl ⟨_, _, rfl⟩, ?_, ?_⟩
  · intro C i v s₁ m E' nC hi hv S₁ hm
    refine wpAny_assign_Name (store_local (hk C) (ha C) hm fun h₂ hm₂ sb₂ => ?_)
    have g₂ := stays_extBut S₁.ground (stays_none gB nC) sb₂.extBut
    refine wpAny_tests_nil ⟨rfl, ?_⟩
    simp only [if_true]
    refine Call_ (name_builtin gd g₂ (hgl C) (hbl C) (hk C) (hb C) (by decide) (by decide) (v := .type "str") PyProof.Rows.Boot.«str» ?_)
    refine callWith_type1 (args_cons (name_local (hk C) (ha C) hm₂ (upd_same ..) (args_nil ?_) hx))
    refine hp i v hv _ _ _ (S₁.kept.sameBut nC sb₂) fun h₃ u tk k₃ => ⟨⟨u, rfl⟩, After.of_but (stays_keeps g₂ k₃) (hm₂.keeps k₃) ?_⟩
    intro b o hb e
    exact ⟨o, k₃ b o (sb₂.extBut b o (fun q => hb (List.mem_singleton.mpr q)) e), .refl o⟩
  · intro D s' ys nD S' pD hpd
    have := paired_texts (f := f) hpd
    rw [filter_true] at this
    exact hQ D s' ys nD S' pD this

/-- `[str(thing) for thing, kind in ..]` -/
theorem comp_strs_pair {mg mb : Str → Option Value} {pt pk p1 pa pf pc pos : Pos} {k0 : Nat} {iter : Expr} {Q : Value → Shared → Prop} (gd : Gd G mg mb) (hh : A.handled = none) (hg : A.guards = some []) (hu : A.units + 20 < 9900)
    (hclos : closureFor scope env = pure cl) (hcell : ∀ y ∈ scope.names, y.2 ≠ .cell) (hkind : scope.kind = .function) (hnames : ∀ y ∈ scope.names, y.2 = .local → scope.names.lookup y.1 = some .local)
    (hk : ∀ C, (compEnvC scope cl C env).scope.kind = .function) (ha : ∀ C, (compEnvC scope cl C env).kindOf "thing" = some .local) (ha' : ∀ C, (compEnvC scope cl C env).kindOf "kind" = some .local) (hb : ∀ C, (compEnvC scope cl C env).kindOf "str" = some .globalImplicit)
    (hgl : ∀ C, (compEnvC scope cl C env).globals = mainGlobals) (hbl : ∀ C, (compEnvC scope cl C env).builtins = builtinsNs)
    (h : wpAny (model prog w) A (eval iter env) (fun v sB => ∃ a vs is, v = .ref a ∧ sB.heap.IsList a (vs : List Value).toArray ∧ PairsAt sB.heap vs is ∧ vs.length ≤ 1000 ∧ G.StaysIn sB.heap ∧
      ∀ D s' ys, sB.heap.get? D = none → Step G sB s' → PlainL s'.heap D (ys : List Value).toArray → Texts ys (is.map txt) → Q (.ref D) s') E s)
    (hs : ∀ x, foldedSetIterable iter env x = pure x := by intro _; rfl) :
    wpAny (model prog w) A (eval (.ListComp (.Call (.Name "str" pf) [.Name "thing" pa] [] pc) [⟨.Tuple [.Name "thing" pt, .Name "kind" pk] k0 p1, iter, [], 0⟩] scope pos) env) Q E s := by
  refine comp_value (G := G) (cl := cl) hh hclos hcell hkind hnames (wpAny_mono h (fun v sB h₁ => ?_) fun _ _ e => e) hs
  obtain ⟨a, vs, is, rfl, hl, hp, hz, gB, hQ⟩ := h₁
  refine ⟨vs.length, _, fun _ => true, fun i y => ∃ t, y = Value.str (txt (is.getD i 0)) t, .list rfl hl, by omega, gB, .inr ⟨⟨_, _, _, rfl⟩, ?_⟩, ?_, ?_⟩
  · intro i v hv
    obtain ⟨j, _, q⟩ := hp.get hv
    obtain ⟨_, p, x, t, rfl, _⟩ := q
    exact ⟨p, rfl⟩
  · intro C i v s₁ m E' nC hi hv S₁ hm
    obtain ⟨j, hj, q⟩ := hp.get hv
    obtain ⟨hj10, p, x, t, rfl, pl, ht⟩ := q
    refine assign_pair (G := G) hh (k_plainL S₁.kept pl).isList (hk C) (ha C) (ha' C) hm S₁.ground (stays_none gB nC) fun h₂ tk hm₂ kb g₂ => ?_
    refine wpAny_tests_nil ⟨rfl, ?_⟩
    simp only [if_true]
    refine Call_ (name_builtin gd g₂ (hgl C) (hbl C) (hk C) (hb C) (by decide) (by decide) (v := .type "str") PyProof.Rows.Boot.«str» ?_)
    refine callWith_type1 (args_cons (name_local (hk C) (ha C) hm₂ (v := x) (by rw [upd_ne _ _ (by decide)]; exact upd_same ..) (args_nil ?_)))
    have K₂ : Kept sB.heap h₂ := S₁.kept.thenBut kb (fun b hb => (List.mem_singleton.mp hb) ▸ nC)
    refine thing_str hj10 (k_thing K₂ ht) hg hu fun h₃ u tk k₃ => ⟨⟨u, by rw [getD_of hj]⟩, After.of_but (stays_keeps g₂ k₃) (hm₂.keeps k₃) ?_⟩
    exact kb.trans (Kept.of_keeps k₃).but
  · intro D s' ys nD S' pD hpd
    have := paired_texts (f := fun i => txt (is.getD i 0)) hpd
    rw [filter_true, hp.length] at this
    rw [map_range_map txt is] at this
    exact hQ D s' ys nD S' pD this
end
end Mine

open PySem PySem.W PyProof.Rows
set_option Elab.async false
set_option maxRecDepth 100000
namespace Mine
open PySem.SeqAt PySem.Calls

theorem paired_places {h : Heap} {vs : List Value} {is : List Nat} (x : PairsAt h vs is) {l : List Nat} {ys : List Value} (p : Paired (fun i y => vs[i]? = some y) l ys) : PairsAt h ys (l.map fun j => is.getD j 0) := by
  induction p with
  | nil => exact .nil
  | cons q _ ih =>
    obtain ⟨j, hj, r⟩ := x.get q
    refine .cons ?_ ih
    show Pair h _ (is.getD _ 0)
    rw [getD_of hj]; exact r

theorem left_call {prog : Program} {w : World} {A : Around} {G : Heap} {mg mb : Str → Option Value} {l : List Env} {s : Shared} {a : Addr} {vs : List Value} {is : List Nat} {v : Value}
    (gd : Gd G mg mb) (R : Rdy A G l s.heap 2 60) (hl : s.heap.IsList a vs.toArray) (hp : PairsAt s.heap vs is) (hsz : vs.length ≤ 1000) (hv : mg (nameOf (stm 9)) = some v) :
    wpAny (model prog w) A (call v [.ref a]) (fun r s' => Step G s s' ∧ r = .bool true) (fun _ _ => False) s := by
  refine enterC (d := 1) (u := 57) gd R gd.fn9 hv (binds := [("row", .ref a)]) (fun _ _ _ => rfl) (fun n x hx => ?_) (fun f cd L s₁ nL x R₁ => ?_) rfl rfl rfl
  · obtain rfl := List.mem_singleton.mp hx
    exact .inr ⟨rfl, rfl⟩
  have gS := R.below.stays
  have rdy : ∀ {h' : Heap} {m' : Str → Option Value}, Kept s.heap h' → G.StaysIn h' → h'.Ns L m' → Rdy (A.deeper (envOfC (nameOf (stm 9)) (scopeOf (stm 9)) L f cd)) G (envOfC (nameOf (stm 9)) (scopeOf (stm 9)) L f cd :: l) h' 1 57 := fun k g hn => R.deeper k g nL hn rfl rfl
  have hh : (A.deeper (envOfC (nameOf (stm 9)) (scopeOf (stm 9)) L f cd)).handled = none := R.handled
  have hgd : (A.deeper (envOfC (nameOf (stm 9)) (scopeOf (stm 9)) L f cd)).guards = some [] := R.guards
  have hu : (A.deeper (envOfC (nameOf (stm 9)) (scopeOf (stm 9)) L f cd)).units + 50 < 9900 := by have := R.units; show A.units + 3 + 50 < 9900; omega
  generalize A.deeper (envOfC (nameOf (stm 9)) (scopeOf (stm 9)) L f cd) = A₁ at R₁ rdy hh hgd hu ⊢
  have g₁ := R₁.below.stays
  have gL : G.get? L = none := stays_none gS nL
  obtain ⟨h₁, tk, rfl⟩ := x.toInCall.same
  have k : Kept s.heap h₁ := .of_keeps x.toInCall.keep
  have S₁ : Step G s { s with heap := h₁, toks := tk } := .of g₁ k
  have hc : h₁.IsCell (L + 1) (some (.ref a)) := x.cell "row" (L + 1) rfl
  have hn : h₁.Ns L _ := x.toInCall.ns
  clear x
  have hn63 : (vs.length : Int) < 2 ^ 63 := Int.lt_of_le_of_lt (show (vs.length : Int) ≤ 1000 by omega) (by decide)
  -- firsts
  refine wpAny_execs_cons ?_
  refine comp_assignK (G := G) (cl := [("row", L + 1)]) hh rfl rfl rfl rfl (by decide) rfl rfl ?_ gL
  refine Call_ (name_builtin gd g₁ rfl rfl rfl rfl (by decide) (by decide) (v := .type "range") PyProof.Rows.Boot.«range» ?_)
  refine callWith_type1 (args_cons ?_)
  refine Call_ (name_builtin gd g₁ rfl rfl rfl rfl (by decide) (by decide) (v := .builtin "len") PyProof.Rows.Boot.«len» ?_)
  refine callWith_builtin1 (args_cons (name_cell rfl rfl rfl hc (args_nil (call_len_list (k_list k hl) (by simpa using hn63) (args_nil (call_range_1 ?_))))))
  simp only [List.size_toArray]
  generalize hHB : h₁.push _ = hB
  have kB : ∀ b o, h₁.get? b = some o → hB.get? b = some o := fun b o e => hHB ▸ Heap.get?_push_of_some _ e
  have gB : G.StaysIn hB := stays_keeps g₁ kB
  have KB : Kept s.heap hB := k.trans (.of_keeps kB)
  refine ⟨_, vs.length, _, _, _, firstAt is, fun i y => vs[i]? = some y, _, rfl, hHB ▸ IsRange.new h₁ 0 (vs.length : Int) 1 _ _ _, by omega, gB, ?_, hn.keeps kB, ?_⟩
  · intro C ck i tk' s₂ m o E' nC nck hckC hi S₂ hm ho
    have K₂ : Kept s.heap s₂.heap := KB.trans S₂.kept
    have gC : G.get? C = none := stays_none gB nC
    have gck : G.get? ck = none := stays_none gB nck
    have nC' : s.heap.get? C = none := KB.isNone nC
    have nck' : s.heap.get? ck = none := KB.isNone nck
    obtain ⟨xi, hxi⟩ : ∃ x, vs[i]? = some x := ⟨vs[i], List.getElem?_eq_getElem hi⟩
    obtain ⟨ii, hii, pi⟩ := hp.get hxi
    refine wpAny_assign_Name (store_cell rfl rfl rfl ho fun h₃ ho₃ sb₃ => ?_)
    have K₃ : Kept s.heap h₃ := K₂.sameBut nck' sb₃
    have g₃ : G.StaysIn h₃ := stays_extBut S₂.ground gck sb₃.extBut
    have hm₃ := hm.sameBut sb₃ hckC.symm
    have hrow₃ : h₃.IsCell (L + 1) (some (.ref a)) := by
      have e1 := k_cell S₂.kept (k_cell (.of_keeps kB) hc)
      refine e1.sameBut sb₃ ?_
      rintro q
      have e2 := k_cell (Kept.of_keeps kB) hc
      obtain ⟨oc, e, _⟩ := e2
      rw [q, nck] at e; cases e
    refine wpAny_tests_one (wpAny_isTrue_Compare1 ?_)
    refine comp_value (G := G) (cl := [("row", L + 1), ("k", ck)]) hh rfl (by decide) rfl (by decide) ?_
    refine wpAny_Subscript_list_slice (name_cell rfl rfl rfl hrow₃ (evalPart_none_step (evalPart_some_step (name_cell rfl rfl rfl ho₃ ?_))))
    refine ⟨a, _, none, some (i : Int), rfl, k_list K₃ hl, by rw [List.size_toArray]; show _ ≤ 16777216; omega, .none, .int _ _, ?_⟩
    rw [slicePick_upto' vs.toArray i]
    dsimp only
    have hlT : ((h₃.push { cls := .type "slice", data := .fields #[Value.none, Value.int (i : Int) tk', .none] }).push { cls := .type "list", data := .seq (List.take i vs).toArray }).IsList (h₃.objs.size + 1) (List.take i vs).toArray := by
      refine ⟨{ cls := .type "list", data := .seq (List.take i vs).toArray }, ?_, rfl, _, rfl⟩
      have := Heap.get?_push_size (h := h₃.push { cls := .type "slice", data := .fields #[Value.none, Value.int (i : Int) tk', .none] }) (o := { cls := .type "list", data := .seq (List.take i vs).toArray }) rfl
      rwa [Heap.size_push] at this
    have k34 : ∀ b o, h₃.get? b = some o → ((h₃.push { cls := .type "slice", data := .fields #[Value.none, Value.int (i : Int) tk', .none] }).push { cls := .type "list", data := .seq (List.take i vs).toArray }).get? b = some o := fun b o e => Heap.get?_push_of_some _ (Heap.get?_push_of_some _ e)
    generalize (h₃.push { cls := .type "slice", data := .fields #[Value.none, Value.int (i : Int) tk', .none] }).push { cls := .type "list", data := .seq (List.take i vs).toArray } = h₄ at hlT k34 ⊢
    have K₄ : Kept s.heap h₄ := K₃.trans (.of_keeps k34)
    have g₄ : G.StaysIn h₄ := stays_keeps g₃ k34
    refine ⟨(List.take i vs).length, _, fun j => kd is j == kd is i, fun j y => True, .list rfl hlT, by rw [List.length_take]; omega, g₄, .inl ⟨_, _, rfl⟩, ?_, ?_⟩
    · intro C2 j v s₅ m₅ E'' nC2 hj hvj S₅ hm₅
      have gC2 : G.get? C2 = none := stays_none g₄ nC2
      have nC2' : s.heap.get? C2 = none := K₄.isNone nC2
      have hji : j < i := by rw [List.length_take] at hj; omega
      have hvj' : vs[j]? = some v := by rw [List.getElem?_take_of_lt hji] at hvj; exact hvj
      obtain ⟨ij, hij, pj⟩ := hp.get hvj'
      refine wpAny_assign_Name (store_local rfl rfl hm₅ fun h₆ hm₆ sb₆ => ?_)
      have K₆ : Kept s.heap h₆ := (K₄.trans S₅.kept).sameBut nC2' sb₆
      have g₆ : G.StaysIn h₆ := stays_extBut S₅.ground gC2 sb₆.extBut
      have K46 : Kept h₄ h₆ := S₅.kept.sameBut nC2 sb₆
      have hrow₆ := k_cell K46 (k_cell (.of_keeps k34) hrow₃)
      have hk₆ := k_cell K46 (k_cell (.of_keeps k34) ho₃)
      obtain ⟨_, p, pv, pt, rfl, pl, _⟩ := k_pair K₆ pj
      obtain ⟨_, q, qv, qt, rfl, ql, _⟩ := k_pair K₆ pi
      refine wpAny_tests_one (wpAny_isTrue_Compare1 ?_)
      refine sub_list (name_local rfl rfl hm₆ (upd_same ..) (wpAny_Constant_int ⟨p, _, 1, _, _, rfl, rfl, pl.isList, by decide, by decide, rfl, ?_⟩))
      refine sub_list (sub_list (name_cell rfl rfl rfl hrow₆ (name_cell rfl rfl rfl hk₆ ⟨a, _, (i : Int), _, .ref q, rfl, rfl, k_list K₆ hl, by omega, ?_, by simpa using hxi, ?_⟩)))
      · exact Int.lt_of_le_of_lt (show (i : Int) ≤ 1000 by omega) (by decide)
      refine wpAny_Constant_int ⟨q, _, 1, _, _, rfl, rfl, ql.isList, by decide, by decide, rfl, ?_⟩
      refine eq_int (wpAny_truthy_bool ⟨?_, ?_⟩)
      · show ((kind ij : Int) == (kind ii : Int)) = (kd is j == kd is i)
        rw [kd_of hij, kd_of hii, Bool.eq_iff_iff, beq_iff_eq, beq_iff_eq]
        omega
      · cases hb : ((kind ij : Int) == (kind ii : Int)) with
        | false =>
          simp only [Bool.false_eq_true, if_false]
          exact ⟨h₆, _, rfl, g₆, ⟨_, hm₆⟩, .of_extBut (List.mem_singleton.mpr rfl) sb₆.extBut⟩
        | true =>
          simp only [if_true]
          refine name_local rfl rfl hm₆ (upd_same ..) ⟨trivial, ?_⟩
          exact ⟨h₆, _, rfl, g₆, ⟨_, hm₆⟩, .of_extBut (List.mem_singleton.mpr rfl) sb₆.extBut⟩
    · intro D s₅ ys nD S₅ pD hpd
      have K₅ : Kept s.heap s₅.heap := K₄.trans S₅.kept
      refine List_ (args_nil ?_)
      refine wpAny_newObj_type ?_ (by size_fits)
      refine empty_eq (k_list (.push _ _) pD.isList) (plain_new _ []).isList (by omega) (wpAny_truthy_bool ⟨?_, ?_⟩)
      · -- the test
        have hlen : (List.take i vs).length = i := by rw [List.length_take]; omega
        rw [hlen] at hpd
        have hz := hpd.length
        rw [Bool.eq_iff_iff]
        unfold firstAt
        rw [List.isEmpty_iff_length_eq_zero, ← hz, List.length_eq_zero_iff, List.filter_eq_nil_iff, List.all_eq_true]
        simp
      · have K₅' : KeptBut [C, ck] s₂.heap (s₅.heap.push { cls := .type "list", dict := none, data := .seq ([] : List Value).toArray }) := by
          refine KeptBut.trans (.of_extBut (a := ck) (by simp) sb₃.extBut) ?_
          exact (((Kept.of_keeps k34).trans S₅.kept).trans (.push _ _)).but
        have hm₅ := k_ns (((Kept.of_keeps k34).trans S₅.kept).trans (.push _ { cls := .type "list", dict := none, data := .seq ([] : List Value).toArray })) hm₃
        have ho₅ := k_cell (((Kept.of_keeps k34).trans S₅.kept).trans (.push _ { cls := .type "list", dict := none, data := .seq ([] : List Value).toArray })) ho₃
        have hrow₅ := k_cell (((Kept.of_keeps k34).trans S₅.kept).trans (.push _ { cls := .type "list", dict := none, data := .seq ([] : List Value).toArray })) hrow₃
        have g₅ : G.StaysIn (s₅.heap.push { cls := .type "list", dict := none, data := .seq ([] : List Value).toArray }) := stays_push S₅.ground
        obtain ⟨h₅, tk₅, rfl, _, _⟩ := S₅
        cases hb : ys.isEmpty with
        | false =>
          simp only [Bool.false_eq_true, if_false]
          exact ⟨_, _, rfl, g₅, ⟨⟨_, hm₅⟩, ⟨_, ho₅⟩⟩, K₅'⟩
        | true =>
          simp only [if_true]
          refine sub_list (name_cell rfl rfl rfl hrow₅ (name_cell rfl rfl rfl ho₅ ⟨a, _, (i : Int), _, xi, rfl, rfl, k_list (K₅.trans (.push _ _)) hl, by omega, ?_, by simpa using hxi, ?_⟩))
          · exact Int.lt_of_le_of_lt (show (i : Int) ≤ 1000 by omega) (by decide)
          exact ⟨hxi, _, _, rfl, g₅, ⟨⟨_, hm₅⟩, ⟨_, ho₅⟩⟩, K₅'⟩
  · intro D s₂ ys nD af pD hpd
    obtain ⟨h₂, tk₂, rfl, g₂, hn₂, kb₂⟩ := af
    dsimp only at g₂ hn₂ kb₂ pD nD ⊢
    have K₂ : Kept s.heap h₂ := KB.thenBut kb₂ (fun b hb => (List.mem_singleton.mp hb) ▸ nL)
    have pf₂ : PairsAt s.heap ys (firsts is) := paired_places hp (by rw [← hp.length]; exact hpd)
    have hzf : ys.length ≤ 1000 := by
      have := hpd.length
      have h2 := List.length_filter_le (firstAt is) (List.range vs.length)
      rw [List.length_range] at h2
      omega
    have hcB := k_cell (Kept.of_keeps kB) hc
    have hc₂ : h₂.IsCell (L + 1) (some (.ref a)) := by
      obtain ⟨oc, e, hd⟩ := hcB
      exact ⟨oc, kb₂.exact (fun q => ne_cell_ns hc hn (List.mem_singleton.mp q)) e (fun _ _ q => by rw [hd] at q; cases q), hd⟩
    clear hcB hpd kb₂
    -- left
    refine wpAny_execs_cons (wpAny_Assign_Name ?_)
    refine own_call gd gd.fn1 rfl g₂ rfl rfl rfl fun v₁ hv₁ => args_cons ?_
    refine comp_things (G := G) (cl := []) hh rfl (by decide) rfl (by decide) (fun _ => rfl) (fun _ => rfl) (fun _ => rfl) ?_
    refine name_cell rfl rfl rfl hc₂ ⟨a, vs, is, s.heap, rfl, k_list K₂ hl, K₂, hp, hsz, g₂, fun T s₃ ts nT S₃ pT tT => ?_⟩
    have hzt : ts.length ≤ 1000 := by rw [tT.length, ← hp.length]; exact hsz
    have K₃ : Kept s.heap s₃.heap := K₂.trans S₃.kept
    refine args_nil ⟨S₃.ground, ?_⟩
    refine wpAny_mono (ded_call gd ((rdy K₃ S₃.ground (k_ns S₃.kept hn₂)).less (by omega) (by omega)) pT.isList K₃ tT hzt hv₁) (fun r s₄ h₄ => ?_) fun _ _ e => e.elim
    obtain ⟨S₄, U, us, rfl, nU, pU, tU, lU⟩ := h₄
    have S₃₄ := S₃.trans S₄
    have hn₄ := k_ns S₃₄.kept hn₂
    refine store_local rfl rfl hn₄ fun h₅ hn₅ sb₅ => ?_
    have hn₅' : h₅.Ns L (upd (upd _ "firsts" (.ref D)) "left" (.ref U)) := hn₅
    clear hn₅
    have K₅ : Kept s.heap h₅ := (K₂.trans S₃₄.kept).sameBut nL sb₅
    have g₅ : G.StaysIn h₅ := stays_extBut S₃₄.ground gL sb₅.extBut
    have pU₅ : PlainL h₅ U us.toArray := pU.extBut sb₅.extBut (ne_ns_plain hn₄ pU)
    have tU₅ : Things h₅ us (ded [] is) := k_things K₅ tU
    have pD₅ : PlainL h₅ D ys.toArray := (k_plainL S₃₄.kept pD).extBut sb₅.extBut (ne_ns_plain hn₄ (k_plainL S₃₄.kept pD))
    have pf₅ : PairsAt h₅ ys (firsts is) := k_pairs K₅ pf₂
    refine wpAny_execs_cons (wpAny_Return_some (wpAny_Compare1 ?_))
    refine comp_strs (G := G) (cl := []) gd hh rfl (by decide) rfl (by decide) (fun _ => rfl) (fun _ => rfl) (fun _ => rfl) (fun _ => rfl) (fun _ => rfl) (by decide) ?_
    refine name_local rfl rfl hn₅' (upd_same ..) ⟨U, us, fun i => txt ((ded [] is).getD i 0), rfl, pU₅.isList, ?_, lU, g₅, fun X s₆ xs nX S₆ pX tX => ?_⟩
    · intro i y hy
      obtain ⟨j, hj, hj10, tj⟩ := tU₅.get hy
      show Shows prog w A₁ h₅ y (txt ((ded [] is).getD i 0))
      rw [getD_of hj]
      exact shows_thing hgd (by omega) hj10 tj
    refine comp_strs_pair (G := G) (cl := []) gd hh hgd (by omega) rfl (by decide) rfl (by decide) (fun _ => rfl) (fun _ => rfl) (fun _ => rfl) (fun _ => rfl) (fun _ => rfl) (fun _ => rfl) ?_
    refine name_local rfl rfl (k_ns S₆.kept hn₅') (v := .ref D) (by rw [upd_ne _ _ (by decide)]; exact upd_same ..) ⟨D, ys, firsts is, rfl, k_list S₆.kept pD₅.isList, k_pairs S₆.kept pf₅, hzf, S₆.ground, fun Z s₇ zs nZ S₇ pZ tZ => ?_⟩
    rw [tU₅.length, map_range_map txt] at tX
    refine texts_eq (k_list S₇.kept pX.isList) pZ.isList tX tZ (by omega) ?_
    rw [ded_firsts]
    refine ⟨?_, by rw [decide_eq_true rfl]⟩
    have S₂ : Step G s { s with heap := h₂, toks := tk₂ } := .of g₂ K₂
    have S₅ : Step G s { s₄ with heap := h₅, toks := s₄.toks + 1 } := (S₂.trans S₃₄).set g₅ K₅
    exact (S₅.trans S₆).trans S₇
end Mine

open PySem PySem.W PyProof.Rows
set_option Elab.async false
set_option maxRecDepth 100000
namespace Mine
open PySem.SeqAt PySem.Calls

/-- lists and tuples stay as they are -/
def Mild (h h' : Heap) : Prop := ∀ b o items n, h.get? b = some o → o.data = .seq items n → h'.get? b = some o
theorem Mild.refl (h : Heap) : Mild h h := fun _ _ _ _ e _ => e
theorem Mild.trans {h₁ h₂ h₃ : Heap} (x : Mild h₁ h₂) (y : Mild h₂ h₃) : Mild h₁ h₃ := fun b o i n e d => y b o i n (x b o i n e d) d
theorem Kept.mild {h h' : Heap} (k : Kept h h') : Mild h h' := fun _ _ _ _ e d => k.exact e (fun _ _ q => by rw [d] at q; cases q)
theorem mild_ns {h h' : Heap} {L : Addr} {m : Str → Option Value} (hn : h.Ns L m) (sb : Heap.SameBut L h h') : Mild h h' := fun b o _ _ e d => sb.extBut b o (fun q => by
  subst q; obtain ⟨o', es, ep, ho, hd, _⟩ := hn; rw [e] at ho; cases ho; rw [d] at hd; cases hd) e
theorem mild_cell {h h' : Heap} {c : Addr} {v : Option Value} (hc : h.IsCell c v) (sb : Heap.SameBut c h h') : Mild h h' := fun b o _ _ e d => sb.extBut b o (fun q => by
  subst q; obtain ⟨o', ho, hd⟩ := hc; rw [e] at ho; cases ho; rw [d] at hd; cases hd) e
theorem Mild.plain {h h' : Heap} (x : Mild h h') {a : Addr} {it : Array Value} (p : PlainL h a it) : PlainL h' a it := by
  obtain ⟨o, n, e, c, d, q⟩ := p; exact ⟨o, n, x _ _ _ _ e q, c, d, q⟩
theorem Mild.list {h h' : Heap} (x : Mild h h') {a : Addr} {it : Array Value} (p : h.IsList a it) : h'.IsList a it := by
  obtain ⟨o, e, c, n, q⟩ := p; exact ⟨o, x _ _ _ _ e q, c, n, q⟩

def put (o : Nat → Option Value) (i : Nat) (v : Value) : Nat → Option Value := fun j => if j = i then some v else o j
/-- a frame with five cells -/
structure Box (L : Addr) (h : Heap) (m : Str → Option Value) (o : Nat → Option Value) : Prop where
  ns : h.Ns L m
  cell : ∀ i : Nat, 1 ≤ i → i ≤ 5 → h.IsCell (L + i) (o i)
theorem Box.kept {L : Addr} {h h' : Heap} {m : Str → Option Value} {o : Nat → Option Value} (B : Box L h m o) (k : Kept h h') : Box L h' m o := ⟨k_ns k B.ns, fun i h1 h2 => k_cell k (B.cell i h1 h2)⟩
theorem Box.at {L : Addr} {h : Heap} {m : Str → Option Value} {o : Nat → Option Value} (B : Box L h m o) (i : Nat) {v : Value} (e : o i = some v) (h1 : 1 ≤ i := by decide) (h2 : i ≤ 5 := by decide) : h.IsCell (L + i) (some v) := e ▸ B.cell i h1 h2
structure Cx (G : Heap) (s₀ : Shared) (L : Addr) : Prop where
  none : ∀ i : Nat, i ≤ 5 → s₀.heap.get? (L + i) = none
  ground : G.StaysIn s₀.heap

section
variable {prog : Program} {w : World} {A : Around} {E : Value → Shared → Prop} {s s₀ : Shared} {env : Env} {G : Heap} {m : Str → Option Value} {o : Nat → Option Value}
theorem st_local {x : Str} {v : Value} {Q : Unit → Shared → Prop} (C : Cx G s₀ env.locals) (S : Step G s₀ s) (B : Box env.locals s.heap m o) (hk : env.scope.kind = .function) (hx : env.kindOf x = some .local)
    (h : ∀ s', Step G s₀ s' → Box env.locals s'.heap (upd m x v) o → Mild s.heap s'.heap → Q () s') : wpAny (model prog w) A (storeName env x v) Q E s := by
  have nL : s₀.heap.get? env.locals = none := C.none 0 (by decide)
  refine store_local hk hx B.ns fun h' hn sb => h _ (S.set (stays_extBut S.ground (stays_none C.ground nL) sb.extBut) (S.kept.sameBut nL sb)) ⟨hn, fun i h1 h2 => ?_⟩ (mild_ns B.ns sb)
  exact (B.cell i h1 h2).sameBut sb (ne_cell_ns (B.cell i h1 h2) B.ns)
theorem st_cell {x : Str} {v : Value} {Q : Unit → Shared → Prop} (i : Nat) (C : Cx G s₀ env.locals) (S : Step G s₀ s) (B : Box env.locals s.heap m o) (hk : env.scope.kind = .function) (hx : env.kindOf x = some .cell) (hc : env.cells.lookup x = some (env.locals + i))
    (h1 : 1 ≤ i) (h2 : i ≤ 5) (h : ∀ s', Step G s₀ s' → Box env.locals s'.heap m (put o i v) → Mild s.heap s'.heap → Q () s') : wpAny (model prog w) A (storeName env x v) Q E s := by
  have nC : s₀.heap.get? (env.locals + i) = none := C.none i h2
  have hci := B.cell i h1 h2
  refine store_cell hk hx hc hci fun h' hn sb => h { s with heap := h' } ?_ ⟨B.ns.sameBut sb (ne_cell_ns hci B.ns).symm, fun j j1 j2 => ?_⟩ (mild_cell hci sb)
  · exact S.set (tk := s.toks) (stays_extBut S.ground (stays_none C.ground nC) sb.extBut) (S.kept.sameBut nC sb)
  · unfold put
    by_cases q : j = i
    · subst q; rw [if_pos rfl]; exact hn
    · rw [if_neg q]; exact (B.cell j j1 j2).sameBut sb (fun e => q (Nat.add_left_cancel e))

theorem assign_cells {e1 e2 : Expr} {x y : Str} {px py tp vp pos : Pos} {k k' : Nat} {Q : Flow → Shared → Prop} (i j : Nat) (C : Cx G s₀ env.locals) (hh : A.handled = none) (hk : env.scope.kind = .function) (hx : env.kindOf x = some .cell) (hcx : env.cells.lookup x = some (env.locals + i))
    (hy : env.kindOf y = some .cell) (hcy : env.cells.lookup y = some (env.locals + j)) (hi : 1 ≤ i ∧ i ≤ 5) (hj : 1 ≤ j ∧ j ≤ 5)
    (h : wpAny (model prog w) A (eval e1 env) (fun v1 s1 => wpAny (model prog w) A (eval e2 env) (fun v2 s2 => ∃ m o, Step G s₀ s2 ∧ Box env.locals s2.heap m o ∧
      ∀ s', Step G s₀ s' → Box env.locals s'.heap m (put (put o i v1) j v2) → Mild s2.heap s'.heap → Q .next s') E s1) E s)
    (he : starEach [e1, e2] env = (false, eval e1 env) :: starEach [e2] env) (he' : starEach [e2] env = (false, eval e2 env) :: starEach [] env) (hs : swapsWithSole [.Tuple [.Name x px, .Name y py] k tp] (.Tuple [e1, e2] k' vp) pos.line env = pure false) (hw : swappedStores [.Tuple [.Name x px, .Name y py] k tp] (.Tuple [e1, e2] k' vp) env = pure none)
    (ha : assignEach [.Name x px, .Name y py] env = [(false, assign (.Name x px) env), (false, assign (.Name y py) env)]) :
    wpAny (model prog w) A (exec (.Assign [.Tuple [.Name x px, .Name y py] k tp] (.Tuple [e1, e2] k' vp) pos) env) Q E s := by
  refine Assign_Tuple ?_ hs hw
  refine wpAny_Tuple ?_
  refine args_cons (wpAny_mono h (fun v1 s1 h1 => ?_) fun _ _ e => e) he
  refine args_cons (wpAny_mono h1 (fun v2 s2 h2 => ?_) fun _ _ e => e) he'
  obtain ⟨m, o, S, B, hQ⟩ := h2
  refine args_nil ⟨(show 2 ≤ 16777216 by decide), ?_⟩
  have hT : (s2.heap.push { cls := .type "tuple", data := .seq [v1, v2].toArray }).IsTuple s2.heap.objs.size #[v1, v2] := ⟨_, Heap.get?_push_size _ rfl, rfl, _, rfl⟩
  refine wpAny_assign_Tuple hh hT (by rw [ha]; rfl) (by rw [ha]; rfl) fun h' eb => ?_
  have k1 : ∀ b o, s2.heap.get? b = some o → h'.get? b = some o := fun b o e => eb b o (Nat.ne_of_lt (Nat.lt_of_lt_of_le (Heap.lt_size e) (by rw [Heap.size_push]; exact Nat.le_succ _))) (Heap.get?_push_of_some _ e)
  have S1 : Step G s₀ { s2 with heap := h', toks := s2.toks } := S.set (stays_keeps S.ground k1) (S.kept.trans (.of_keeps k1))
  rw [ha]
  show wpAny _ _ (assignInOrder [assign (.Name x px) env, assign (.Name y py) env] [v1, v2]) _ _ _
  rw [assignInOrder]
  refine wpAny_bind (wpAny_holding (wpAny_assign_Name (st_cell i C S1 (B.kept (.of_keeps k1)) hk hx hcx hi.1 hi.2 fun s3 S3 B3 m3 => ?_)))
  rw [assignInOrder]
  refine wpAny_bind (wpAny_holding (wpAny_assign_Name (st_cell j C S3 B3 hk hy hcy hj.1 hj.2 fun s4 S4 B4 m4 => ?_)))
  rw [assignInOrder]
  · exact wpAny_pure (hQ s4 S4 B4 (((Kept.of_keeps k1).mild.trans m3).trans m4))
  · intro _ _ _ _ q; cases q

theorem assign_locals {e1 e2 : Expr} {x y : Str} {px py tp vp pos : Pos} {k k' : Nat} {Q : Flow → Shared → Prop} (C : Cx G s₀ env.locals) (hh : A.handled = none) (hk : env.scope.kind = .function) (hx : env.kindOf x = some .local) (hy : env.kindOf y = some .local)
    (h : wpAny (model prog w) A (eval e1 env) (fun v1 s1 => wpAny (model prog w) A (eval e2 env) (fun v2 s2 => ∃ m o, Step G s₀ s2 ∧ Box env.locals s2.heap m o ∧
      ∀ s', Step G s₀ s' → Box env.locals s'.heap (upd (upd m y v2) x v1) o → Mild s2.heap s'.heap → Q .next s') E s1) E s)
    (he : starEach [e1, e2] env = (false, eval e1 env) :: starEach [e2] env) (he' : starEach [e2] env = (false, eval e2 env) :: starEach [] env) (hs : swapsWithSole [.Tuple [.Name x px, .Name y py] k tp] (.Tuple [e1, e2] k' vp) pos.line env = pure false) (hw : swappedStores [.Tuple [.Name x px, .Name y py] k tp] (.Tuple [e1, e2] k' vp) env = pure (some [x, y])) :
    wpAny (model prog w) A (exec (.Assign [.Tuple [.Name x px, .Name y py] k tp] (.Tuple [e1, e2] k' vp) pos) env) Q E s := by
  refine Assign_Tuple_swapped (names := [x, y]) ?_ hs hw
  refine wpAny_Tuple ?_
  refine args_cons (wpAny_mono h (fun v1 s1 h1 => ?_) fun _ _ e => e) he
  refine args_cons (wpAny_mono h1 (fun v2 s2 h2 => ?_) fun _ _ e => e) he'
  obtain ⟨m, o, S, B, hQ⟩ := h2
  refine args_nil ⟨(show 2 ≤ 16777216 by decide), ?_⟩
  have hT : (s2.heap.push { cls := .type "tuple", data := .seq [v1, v2].toArray }).IsTuple s2.heap.objs.size #[v1, v2] := ⟨_, Heap.get?_push_size _ rfl, rfl, _, rfl⟩
  have e2 : ([x, y] : List Str).length = (#[v1, v2] : Array Value).size := rfl
  rw [e2]
  refine wpAny_unpackItems_tuple hh hT fun h' eb => ?_
  have k1 : ∀ b o, s2.heap.get? b = some o → h'.get? b = some o := fun b o e => eb b o (Nat.ne_of_lt (Nat.lt_of_lt_of_le (Heap.lt_size e) (by rw [Heap.size_push]; exact Nat.le_succ _))) (Heap.get?_push_of_some _ e)
  have S1 : Step G s₀ { s2 with heap := h', toks := s2.toks } := S.set (stays_keeps S.ground k1) (S.kept.trans (.of_keeps k1))
  show wpAny _ _ (assignInOrder [bindName env y, bindName env x] [v2, v1]) _ _ _
  rw [assignInOrder]
  refine wpAny_bind (wpAny_holding (bindName_ (st_local C S1 (B.kept (.of_keeps k1)) hk hy fun s3 S3 B3 m3 => ?_)))
  rw [assignInOrder]
  refine wpAny_bind (wpAny_holding (bindName_ (st_local C S3 B3 hk hx fun s4 S4 B4 m4 => ?_)))
  rw [assignInOrder]
  · exact wpAny_pure (hQ s4 S4 B4 (((Kept.of_keeps k1).mild.trans m3).trans m4))
  · intro _ _ _ _ q; cases q

theorem add_two {a b : Addr} {vs ws : List Value} {Q : Value → Shared → Prop} (hl : s.heap.IsList a vs.toArray) (hb : s.heap.IsList b ws.toArray) (hsz : vs.length + ws.length ≤ 10000)
    (h : PlainL (s.heap.push { cls := .type "list", data := .seq (vs ++ ws).toArray }) s.heap.objs.size (vs ++ ws).toArray → Q (.ref s.heap.objs.size) { s with heap := s.heap.push { cls := .type "list", data := .seq (vs ++ ws).toArray } }) :
    wpAny (model prog w) A (binaryOp .Add (.ref a) (.ref b)) Q E s := by
  obtain ⟨⟨cls, dd, data, sl⟩, ho, hc, n, hd⟩ := id hl
  obtain ⟨⟨cls2, dd2, data2, sl2⟩, ho2, hc2, n2, hd2⟩ := id hb
  simp only at hc hd hc2 hd2
  subst hc hd hc2 hd2
  have e : vs.toArray ++ ws.toArray = (vs ++ ws).toArray := by simp
  refine concat_meets ⟨_, ho, rfl⟩ ⟨_, ho2, rfl⟩ noFill_list_add seq_list_add PySem.F.slot_list_add PySem.F.entry_list_add (PySem.F.args_list_add_2 _ _) (list_addW a b vs.toArray ws.toArray n n2 dd dd2 sl sl2 (by simp only [List.size_toArray]; show _ ≤ 16777216; omega)) ⟨ho, ho2, ?_⟩
  rw [e]
  exact h ⟨_, _, Heap.get?_push_size _ rfl, rfl, rfl, rfl⟩

theorem bool_ne {a b : Bool} {Q : Value → Shared → Prop} (h : Q (.bool (!(a == b))) s) : wpAny (model prog w) A (compareOp .NotEq (.bool a) (.bool b)) Q E s := RcNeAt.bool_bool a b prog w E Q h
theorem empty_ne {a b : Addr} {us : List Value} {Q : Value → Shared → Prop} (ha : s.heap.IsList a us.toArray) (hb : s.heap.IsList b ([] : List Value).toArray) (hu : A.units + 20 < 9900)
    (h : Q (.bool (!us.isEmpty)) s) : wpAny (model prog w) A (compareOp .NotEq (.ref a) (.ref b)) Q E s := by
  have hl : A.units < cLine := by show _ < 9900; omega
  cases us with
  | nil => exact RcNeAt.lists (e := fun _ => true) ha hb rfl hl (fun j h1 _ => absurd h1 (by simp)) prog w E Q h
  | cons x r => exact RcNeAt.lists_lengths ha hb (by simp) hl prog w E Q h
theorem texts_ne {a b : Addr} {us vs : List Value} {xs ys : List Str} {Q : Value → Shared → Prop} (ha : s.heap.IsList a us.toArray) (hb : s.heap.IsList b vs.toArray) (x : Texts us xs) (y : Texts vs ys) (hu : A.units + 20 < 9900)
    (hxy : xs = ys) (h : Q (.bool false) s) : wpAny (model prog w) A (compareOp .NotEq (.ref a) (.ref b)) Q E s := by
  have hl : A.units < cLine := by show _ < 9900; omega
  subst hxy
  have hz : us.length = vs.length := by rw [x.length, y.length]
  have := RcNeAt.lists (A := A) (s := s) (e := fun j => true) ha hb (by simpa using hz) hl (fun j h1 h2 => by
    simp only [List.size_toArray] at h1 h2
    obtain ⟨p, t, e1, e1'⟩ := x.get (List.getElem?_eq_getElem h1)
    obtain ⟨q, u, e2, e2'⟩ := y.get (List.getElem?_eq_getElem h2)
    simp only [List.getElem_toArray]
    rw [e1] at e2; cases e2
    rw [e1', e2']
    have := EqAt.str_str (A := A.in1) (s := s) p t p u
    rwa [beq_self_eq_true] at this) prog w E Q
  refine this ?_
  rw [show ((List.range us.toArray.size).all fun _ => true) = true from List.all_eq_true.mpr fun _ _ => rfl]
  exact h
theorem Ints.get {vs : List Value} {ns : List Nat} (x : Ints vs ns) : ∀ {j : Nat} {v : Value}, vs[j]? = some v → ∃ (y : Nat) (t : Tok), ns[j]? = some y ∧ v = .int (y : Int) t := by
  induction x with
  | nil => intro j v e; simp at e
  | cons _ ih =>
    intro j v e
    cases j with
    | zero => simp at e; subst e; exact ⟨_, _, rfl, rfl⟩
    | succ j => exact ih (by simpa using e)
theorem ints_eq {a b : Addr} {us vs : List Value} {xs ys : List Nat} {Q : Value → Shared → Prop} (ha : s.heap.IsList a us.toArray) (hb : s.heap.IsList b vs.toArray) (x : Ints us xs) (y : Ints vs ys) (hu : A.units + 20 < 9900)
    (hxy : xs = ys) (h : Q (.bool true) s) : wpAny (model prog w) A (compareOp .Eq (.ref a) (.ref b)) Q E s := by
  have hl : A.units < cLine := by show _ < 9900; omega
  subst hxy
  have hz : us.length = vs.length := by rw [x.length, y.length]
  have := eq_listAt (prog := prog) (w := w) (E := E) (Q := Q) (A := A) (s := s) (e := fun j => true) ha hb (by simpa using hz) hl (fun j h1 h2 => by
    simp only [List.size_toArray] at h1 h2
    obtain ⟨p, t, e1, e1'⟩ := x.get (List.getElem?_eq_getElem h1)
    obtain ⟨q, u, e2, e2'⟩ := y.get (List.getElem?_eq_getElem h2)
    simp only [List.getElem_toArray]
    rw [e1] at e2; cases e2
    rw [e1', e2']
    have := EqAt.int_int (A := A.in1) (s := s) (p : Int) t p u
    rwa [beq_self_eq_true] at this)
  refine this ?_
  rw [show ((List.range us.toArray.size).all fun _ => true) = true from List.all_eq_true.mpr fun _ _ => rfl]
  exact h
end
end Mine

open PySem PySem.W PyProof.Rows
set_option Elab.async false
set_option maxRecDepth 100000
namespace Mine
/-! plain law of the comparison and of the flags -/
theorem erase_kind {k : Nat} : ∀ (t : List Nat) {j : Nat}, t.findIdx? (fun j => kind j == k) = some j → (t.eraseIdx j).map kind = (t.map kind).erase k
  | [], _, h => by simp at h
  | x :: r, j, h => by
    rw [List.findIdx?_cons] at h
    by_cases q : (kind x == k) = true
    · rw [if_pos q] at h; cases h
      rw [List.eraseIdx_cons_zero, List.map_cons, List.erase_cons, if_pos q]
    · rw [if_neg q] at h
      cases hr : r.findIdx? (fun j => kind j == k) with
      | none => rw [hr] at h; cases h
      | some i =>
        rw [hr] at h; cases h
        rw [List.eraseIdx_cons_succ, List.map_cons, List.map_cons, List.erase_cons, if_neg q, erase_kind r hr]
theorem find_kind {k : Nat} : ∀ t : List Nat, (t.findIdx? (fun j => kind j == k)).isSome = (t.map kind).contains k
  | [] => rfl
  | x :: r => by
    rw [List.findIdx?_cons, List.map_cons, List.contains_cons]
    by_cases q : kind x = k
    · rw [if_pos (by simpa using q), q]; simp
    · rw [if_neg (by simpa using q), Option.isSome_map, find_kind r]
      have : (k == kind x) = false := by simpa using fun e : k = kind x => q e.symm
      rw [this, Bool.false_or]
theorem rem_perm : ∀ (l t : List Nat), (match rem l t with | none => false | some t => t.isEmpty) = (l.map kind).isPerm (t.map kind)
  | [], t => by simp [rem, List.isPerm]
  | i :: r, t => by
    have hf := find_kind (k := kind i) t
    rw [List.map_cons, List.isPerm, rem]
    cases hj : t.findIdx? (fun j => kind j == kind i) with
    | none => rw [hj] at hf; rw [← hf]; rfl
    | some j =>
      rw [hj] at hf; rw [← hf, ← erase_kind t hj]
      simpa using rem_perm r (t.eraseIdx j)
theorem ded_nodup : ∀ (l acc : List Nat), (acc.map kind).Nodup → ((ded acc l).map kind).Nodup
  | [], acc, h => by simpa [ded] using h
  | i :: r, acc, h => by
    rw [ded]
    split
    · exact ded_nodup r acc h
    · rename_i q
      refine ded_nodup r _ ?_
      rw [List.map_append, List.nodup_append]
      refine ⟨h, by simp, ?_⟩
      intro a ha b hb
      simp at hb
      subst hb
      rintro rfl
      obtain ⟨j, hj, e⟩ := List.mem_map.mp ha
      exact q (List.any_eq_true.mpr ⟨j, hj, by simpa using e⟩)
/-- has kind -/
def has (is : List Nat) (k : Nat) : Bool := (is.map kind).contains k
theorem has_any (is : List Nat) (k : Nat) : has is k = is.any (fun j => kind j == k) := by
  unfold has
  rw [List.contains_eq_any_beq, List.any_map, Bool.eq_iff_iff]
  simp only [List.any_eq_true, Function.comp, beq_iff_eq]
  constructor <;> rintro ⟨x, a, b⟩ <;> exact ⟨x, a, b.symm⟩
theorem has_ded (is : List Nat) (k : Nat) : has (ded [] is) k = has is k := by
  rw [has_any, has_any, ded_any]; rfl
theorem has_mem {is : List Nat} {k : Nat} : k ∈ is.map kind ↔ has is k = true := by unfold has; rw [List.contains_iff_mem]
theorem has_append (is : List Nat) (i k : Nat) : has (is ++ [i]) k = (has is k || k == kind i) := by
  have e : (kind i == k) = (k == kind i) := by rw [Bool.eq_iff_iff, beq_iff_eq, beq_iff_eq]; exact eq_comm
  rw [has_any, has_any, List.any_append, List.any_cons, List.any_nil, Bool.or_false, e]
theorem has_big {is : List Nat} {k : Nat} (h : 6 ≤ k) : has is k = false := by
  rw [has_any]
  refine Bool.eq_false_iff.mpr fun q => ?_
  obtain ⟨j, _, e⟩ := List.any_eq_true.mp q
  have := kind_lt j
  rw [beq_iff_eq] at e; omega
theorem cmp_has (is js : List Nat) : cmp is js = (List.range 6).all fun k => has is k == has js k := by
  have hc : cmp is js = ((ded [] is).map kind).isPerm ((ded [] js).map kind) := by rw [← rem_perm]; rfl
  rw [hc, Bool.eq_iff_iff, List.isPerm_iff, List.perm_ext_iff_of_nodup (ded_nodup is [] (by simp)) (ded_nodup js [] (by simp)), List.all_eq_true]
  constructor
  · intro h k _
    have := h k
    rw [has_mem, has_mem, has_ded, has_ded] at this
    rw [beq_iff_eq, Bool.eq_iff_iff]; exact this
  · intro h k
    rw [has_mem, has_mem, has_ded, has_ded]
    by_cases q : k < 6
    · have := h k (List.mem_range.mpr q)
      rw [beq_iff_eq] at this; rw [this]
    · rw [has_big (by omega), has_big (by omega)]

/-- six truth values as a function -/
def six (a b c d e f : Bool) : Nat → Bool
  | 0 => a | 1 => b | 2 => c | 3 => d | 4 => e | 5 => f | _ => false
theorem has_six (is : List Nat) : has is = six (has is 0) (has is 1) (has is 2) (has is 3) (has is 4) (has is 5) := by
  funext k
  match k with
  | 0 => rfl | 1 => rfl | 2 => rfl | 3 => rfl | 4 => rfl | 5 => rfl
  | k + 6 => exact has_big (by omega)
def flagP (p : Nat → Bool) : Nat := (((List.range 6).filter p).map fun k => 2 ^ k).sum
theorem flag_has (is : List Nat) : flagOf (is.map kind) = flagP (has is) := rfl
def apartP (p q : Nat → Bool) : List Nat := (List.range 6).filter fun k => !(p k == q k)
def apart (is js : List Nat) : List Nat := apartP (has is) (has js)
def dueP (p q : Nat → Bool) (k : Nat) : Bool := if (apartP p q).isEmpty then p k else if (apartP p q).length == 1 then (apartP p q).contains k else false

def xorOf (is js : List Nat) : Int := Builtin.bitXor (flagOf (is.map kind) : Nat) (flagOf (js.map kind) : Nat)
def lastOf (l : List Nat) : Int := match l.getLast? with | none => -1 | some k => (k : Int)
theorem bits_tab : ∀ x : Nat, x < 64 → (Builtin.Int.intBits (x : Int) : Int) - 1 = lastOf ((List.range 6).filter fun k => x.testBit k) ∧ single (x : Int) = (((List.range 6).filter fun k => x.testBit k).length == 1) := by decide +kernel
theorem flag_tab : ∀ a b c d e f : Bool, flagP (six a b c d e f) < 64 ∧ (List.range 6).all (fun k => (flagP (six a b c d e f)).testBit k == six a b c d e f k) = true := by decide +kernel
theorem flag_lt (is : List Nat) : flagOf (is.map kind) < 64 := by rw [flag_has, has_six]; exact (flag_tab _ _ _ _ _ _).1
theorem flag_bit (is : List Nat) {k : Nat} (h : k < 6) : (flagOf (is.map kind)).testBit k = has is k := by
  have := (flag_tab (has is 0) (has is 1) (has is 2) (has is 3) (has is 4) (has is 5)).2
  rw [← has_six, List.all_eq_true] at this
  have := this k (List.mem_range.mpr h)
  rw [beq_iff_eq] at this
  rw [flag_has]; exact this
theorem xor_tab : ∀ a : Nat, a < 64 → ∀ b : Nat, b < 64 → Builtin.bitXor (a : Int) (b : Int) = ((a ^^^ b : Nat) : Int) := by decide +kernel
theorem xorOf_nat (is js : List Nat) : xorOf is js = ((flagOf (is.map kind) ^^^ flagOf (js.map kind) : Nat) : Int) := by
  exact xor_tab _ (flag_lt is) _ (flag_lt js)
theorem apart_bits (is js : List Nat) : (List.range 6).filter (fun k => (flagOf (is.map kind) ^^^ flagOf (js.map kind)).testBit k) = apart is js := by
  unfold apart apartP
  apply List.filter_congr
  intro k hk
  rw [Nat.testBit_xor, flag_bit is (List.mem_range.mp hk), flag_bit js (List.mem_range.mp hk)]
  cases has is k <;> cases has js k <;> rfl
theorem high_law (is js : List Nat) : (Builtin.Int.intBits (xorOf is js) : Int) - 1 = lastOf (apart is js) := by
  rw [xorOf_nat, (bits_tab _ (Nat.xor_lt_two_pow (n := 6) (flag_lt is) (flag_lt js))).1, apart_bits]
theorem single_law (is js : List Nat) : single (xorOf is js) = ((apart is js).length == 1) := by
  rw [xorOf_nat, (bits_tab _ (Nat.xor_lt_two_pow (n := 6) (flag_lt is) (flag_lt js))).2, apart_bits]
theorem cmp_law (is js : List Nat) : cmp is js = (apart is js).isEmpty := by
  rw [cmp_has, Bool.eq_iff_iff, List.isEmpty_iff]
  unfold apart apartP
  rw [List.filter_eq_nil_iff, List.all_eq_true]
  simp
/-- the mends, kind for kind: all other kinds agree, and this one is on either side -/
theorem mend_tab : ∀ k, k < 6 → ∀ u a b c d e f : Bool,
    (((List.range 6).all fun j => j == k || !six a b c d e f j) && (u || six a b c d e f k)) = (if ((List.range 6).filter (six a b c d e f)).isEmpty then u else if ((List.range 6).filter (six a b c d e f)).length == 1 then ((List.range 6).filter (six a b c d e f)).contains k else false) := by decide +kernel
theorem mend_side (p q : Nat → Bool) {k : Nat} (hk : k < 6) :
    (((List.range 6).all fun j => (p j || j == k) == q j) || ((List.range 6).all fun j => p j == (q j || j == k))) = (((List.range 6).all fun j => j == k || !(!(p j == q j))) && (p k || !(p k == q k))) := by
  rw [Bool.eq_iff_iff]
  simp only [Bool.or_eq_true, Bool.and_eq_true, List.all_eq_true, List.mem_range, beq_iff_eq, Bool.not_not]
  constructor
  · rintro (h | h)
    · refine ⟨fun j hj => ?_, ?_⟩
      · by_cases q' : j = k
        · exact .inl q'
        · have := h j hj
          rw [show (j == k) = false from by simpa using q', Bool.or_false] at this
          exact .inr this
      · have := h k hk
        rw [beq_self_eq_true, Bool.or_true] at this
        rw [← this]
        cases p k <;> simp
    · refine ⟨fun j hj => ?_, ?_⟩
      · by_cases q' : j = k
        · exact .inl q'
        · have := h j hj
          rw [show (j == k) = false from by simpa using q', Bool.or_false] at this
          exact .inr this
      · have := h k hk
        rw [beq_self_eq_true, Bool.or_true] at this
        exact .inl this
  · rintro ⟨h, h'⟩
    cases hp : p k with
    | true =>
      refine .inr fun j hj => ?_
      by_cases q' : j = k
      · subst q'; rw [hp, beq_self_eq_true, Bool.or_true]
      · rw [show (j == k) = false from by simpa using q', Bool.or_false]
        exact (h j hj).resolve_left q'
    | false =>
      rw [hp] at h'
      have hq : q k = true := by
        rcases h' with h' | h'
        · cases h'
        · cases hq : q k
          · rw [hq] at h'; cases h'
          · rfl
      refine .inl fun j hj => ?_
      by_cases q' : j = k
      · subst q'; rw [hq, beq_self_eq_true, Bool.or_true]
      · rw [show (j == k) = false from by simpa using q', Bool.or_false]
        exact (h j hj).resolve_left q'
theorem six_of (g : Nat → Bool) {j : Nat} (hj : j < 6) : six (g 0) (g 1) (g 2) (g 3) (g 4) (g 5) j = g j := by
  match j, hj with
  | 0, _ => rfl | 1, _ => rfl | 2, _ => rfl | 3, _ => rfl | 4, _ => rfl | 5, _ => rfl
theorem mend_law (is js : List Nat) (i : Nat) : (cmp (is ++ [i]) js || cmp is (js ++ [i])) = dueP (has is) (has js) (kind i) := by
  rw [cmp_has, cmp_has]
  have hk := kind_lt i
  simp only [has_append]
  rw [mend_side (has is) (has js) hk]
  generalize hg : (fun j => !(has is j == has js j)) = g
  have hgj : ∀ j, (!(has is j == has js j)) = g j := fun j => congrFun hg j
  have ef : (List.range 6).filter (six (g 0) (g 1) (g 2) (g 3) (g 4) (g 5)) = apartP (has is) (has js) := by
    unfold apartP
    rw [hg]
    exact List.filter_congr fun j hj => six_of g (List.mem_range.mp hj)
  have ea : ((List.range 6).all fun j => j == kind i || !six (g 0) (g 1) (g 2) (g 3) (g 4) (g 5) j) = ((List.range 6).all fun j => j == kind i || !(!(has is j == has js j))) := by
    rw [Bool.eq_iff_iff, List.all_eq_true, List.all_eq_true]
    constructor
    · intro h j hj; have := h j hj; rwa [six_of g (List.mem_range.mp hj), ← hgj] at this
    · intro h j hj; have := h j hj; rwa [six_of g (List.mem_range.mp hj), ← hgj]
  have := mend_tab (kind i) hk (has is (kind i)) (g 0) (g 1) (g 2) (g 3) (g 4) (g 5)
  rw [ef, ea, six_of g hk, ← hgj] at this
  rw [this]
  rfl
end Mine

open PySem PySem.W PyProof.Rows
set_option Elab.async false
set_option maxRecDepth 100000
namespace Mine
open PySem.SeqAt PySem.Calls

theorem last_small (is js : List Nat) : (lastOf (apart is js)).natAbs.log2 < 1920 := by
  have h : (lastOf (apart is js)).natAbs < 6 := by
    unfold lastOf
    cases e : (apart is js).getLast? with
    | none => decide
    | some k =>
      have hm := List.mem_of_getLast? e
      unfold apart apartP at hm
      have := List.mem_range.mp (List.mem_filter.mp hm).1
      show (k : Int).natAbs < 6
      omega
  have : ∀ n, n < 6 → Nat.log2 n < 1920 := by decide
  exact this _ h
theorem last_item {zs : List Value} {l : List Nat} {t0 : Tok} (x : Ints zs l) : ∃ t, (Value.int (-1) t0 :: zs)[zs.length]? = some (.int (lastOf l) t) := by
  unfold lastOf
  cases e : l.getLast? with
  | none =>
    rw [List.getLast?_eq_none_iff] at e; subst e
    cases x; exact ⟨t0, rfl⟩
  | some k =>
    have hz := x.length
    rw [List.getLast?_eq_getElem?] at e
    have hl : l.length ≠ 0 := fun q => by
      have : l = [] := List.length_eq_zero_iff.mp q
      subst this; simp at e
    have h1 : zs.length - 1 < zs.length := by omega
    obtain ⟨y, t, e1, e2⟩ := x.get (List.getElem?_eq_getElem h1)
    rw [← hz, e1] at e
    cases e
    refine ⟨t, ?_⟩
    have e3 : (Value.int (-1) t0 :: zs)[zs.length]? = zs[zs.length - 1]? := by
      obtain ⟨n, hn⟩ : ∃ n, zs.length = n + 1 := ⟨zs.length - 1, by omega⟩
      rw [hn]; rfl
    rw [e3, List.getElem?_eq_getElem h1, e2]

section
variable {prog : Program} {w : World} {A : Around} {E : Value → Shared → Prop} {s : Shared}
/-- an item of a list, by a negative index -/
theorem sub_neg {env : Env} {value slice : Expr} {pos : Pos} {Q : Value → Shared → Prop}
    (h : wpAny (model prog w) A (eval value env) (fun o s₁ => wpAny (model prog w) A (eval slice env) (fun i s₂ => ∃ l items k t x, o = .ref l ∧ i = .int k t ∧ s₂.heap.IsList l items ∧ k < 0 ∧ -(items.size : Int) ≤ k ∧ -(2 ^ 63) ≤ k ∧ items[(k + items.size).toNat]? = some x ∧ Q x s₂) E s₁) E s)
    (hsl : ∀ o i, subscripted slice false o i = operate [o, i] (getItem o i) := by intro _ _; rfl) :
    wpAny (model prog w) A (eval (.Subscript value slice pos) env) Q E s := by
  rw [eval_Subscript]
  refine wpAny_bind (wpAny_mono h (fun o s₁ h₁ => wpAny_bind (wpAny_holding (wpAny_mono h₁ (fun i s₂ h₂ => wpAny_bind (wpAny_standAt ?_)) fun _ _ x => x))) fun _ _ x => x)
  obtain ⟨l, items, k, t, x, rfl, rfl, hl, h0, h1, h63, hx, hq⟩ := h₂
  refine wpAny_bind ?_
  rw [getitemInPython_of_ne hl.typeIs.not_modules]
  refine wpAny_bind (wpAny_specialOf hl.typeIs list_getitem_lookup ?_)
  have fin : wpAny (model prog w) A (subscripted slice false (.ref l) (.int k t)) (fun r s₃ => wpAny (model prog w) A (letTemporaryGo value (.ref l) r >>= fun _ => pure r) Q E s₃) E s₂ := by
    rw [hsl]
    exact wpAny_operating (wpAny_mono (wpAny_getItem_list_neg hl h0 h1 h63 hx hq) (fun r s₃ h₃ => wpAny_bind (wpAny_letTemporaryGo (wpAny_pure h₃))) fun _ _ x => x)
  first
    | exact wpAny_pure (wpAny_bind fin)
    | exact wpAny_bind (wpAny_pure (wpAny_bind fin))
    | exact wpAny_bind fin
theorem shows_int {h : Heap} {n : Int} {t : Tok} (hn : n.natAbs.log2 < 1920) : Shows prog w A h (.int n t) (Str.ofString (toString n)) := fun s _ _ _ hQ => P.str_of_int hn (hQ s.heap _ _ fun _ _ e => e)
theorem shows_bool {h : Heap} {b : Bool} : Shows prog w A h (.bool b) (if b then "True" else "False") := fun s _ _ _ hQ => P.str_of_bool (hQ s.heap _ _ fun _ _ e => e)
end

def ten : List Nat := [0, 1, 2, 3, 4, 5, 6, 7, 8, 9]
theorem Box.after {L : Addr} {h h' : Heap} {m m' : Str → Option Value} {o : Nat → Option Value} (B : Box L h m o) (kb : KeptBut [L] h h') (hn : h'.Ns L m') : Box L h' m' o := ⟨hn, fun i h1 h2 => by
  have hc := B.cell i h1 h2
  obtain ⟨oc, e, hd⟩ := id hc
  exact ⟨oc, kb.exact (fun q => ne_cell_ns hc B.ns (List.mem_singleton.mp q)) e (fun _ _ q => by rw [hd] at q; cases q), hd⟩⟩
theorem mild_but {h h' : Heap} {L : Addr} {m : Str → Option Value} (hn : h.Ns L m) (kb : KeptBut [L] h h') : Mild h h' := fun b o it n e d => kb.exact (fun q => by
  obtain rfl := List.mem_singleton.mp q
  obtain ⟨o', es, ep, ho, hd, _⟩ := hn; rw [e] at ho; cases ho; rw [d] at hd; cases hd) e (fun _ _ q => by rw [d] at q; cases q)
/-- a list of a cell and the thing at hand -/
theorem plus_thing {prog : Program} {w : World} {A : Around} {E : Value → Shared → Prop} {s : Shared} {env : Env} {c : Str} {ca O : Addr} {os : List Value} {x : Value} {m : Str → Option Value} {pc pt pl pb : Pos} {Q : Value → Shared → Prop}
    (hk : env.scope.kind = .function) (hc : env.kindOf c = some .cell) (hcl : env.cells.lookup c = some ca) (hv : s.heap.IsCell ca (some (.ref O))) (hO : s.heap.IsList O os.toArray) (hx : env.kindOf "thing" = some .local) (hn : s.heap.Ns env.locals m) (hm : m "thing" = some x) (hl : os.length ≤ 900) (hcd : (c == ("__debug__" : Str)) = false)
    (he : starEach [.Name "thing" pt] env = (false, eval (.Name "thing" pt) env) :: starEach [] env)
    (h : ∀ N h', (∀ b o, s.heap.get? b = some o → h'.get? b = some o) → PlainL h' N (os ++ [x]).toArray → Q (.ref N) { s with heap := h' }) :
    wpAny (model prog w) A (eval (.BinOp (.Name c pc) .Add (.List [.Name "thing" pt] pl) pb) env) Q E s := by
  refine wpAny_BinOp (name_cell hk hc hcl hv (List_ (args_cons (name_local hk hx hn hm (args_nil (wpAny_newObj_type ?_ (by size_fits)))) he)) hcd)
  have pN := plain_new s.heap [x]
  have kN : ∀ b o, s.heap.get? b = some o → (s.heap.push { cls := .type "list", data := .seq [x].toArray }).get? b = some o := fun b o e => Heap.get?_push_of_some _ e
  generalize s.heap.objs.size = N at pN ⊢
  generalize s.heap.push { cls := .type "list", data := .seq [x].toArray } = h₁ at pN kN ⊢
  refine add_two (k_list (.of_keeps kN) hO) pN.isList (show os.length + 1 ≤ 10000 by omega) fun pZ => ?_
  exact h _ _ (fun b o e => Heap.get?_push_of_some _ (kN b o e)) pZ

set_option maxHeartbeats 1000000 in
theorem met_call {prog : Program} {w : World} {A : Around} {G : Heap} {mg mb : Str → Option Value} {l : List Env} {s : Shared} {a b : Addr} {vs us : List Value} {is js : List Nat} {v : Value}
    (gd : Gd G mg mb) (R : Rdy A G l s.heap 3 63) (ha : s.heap.IsList a vs.toArray) (hb : s.heap.IsList b us.toArray) (hp : PairsAt s.heap vs is) (hq : PairsAt s.heap us js) (hz : vs.length ≤ 900) (hz' : us.length ≤ 900) (hv : mg (nameOf (stm 10)) = some v) :
    wpAny (model prog w) A (call v [.ref a, .ref b]) (fun r s' => Step G s s' ∧ r = .bool true) (fun _ _ => False) s := by
  refine enterC (d := 2) (u := 60) gd R gd.fn10 hv (binds := [("first", .ref a), ("second", .ref b)]) (fun _ _ _ => rfl) (fun n x hx => ?_) (fun f cd L s₁ nL x R₁ => ?_) rfl rfl rfl
  · rcases List.mem_cons.mp hx with rfl | hx
    · exact .inl rfl
    · obtain rfl := List.mem_singleton.mp hx
      exact .inl rfl
  have gS := R.below.stays
  have rdy : ∀ {h' : Heap} {m' : Str → Option Value}, Kept s.heap h' → G.StaysIn h' → h'.Ns L m' → Rdy (A.deeper (envOfC (nameOf (stm 10)) (scopeOf (stm 10)) L f cd)) G (envOfC (nameOf (stm 10)) (scopeOf (stm 10)) L f cd :: l) h' 2 60 := fun k g hn => R.deeper k g nL hn rfl rfl
  have hh : (A.deeper (envOfC (nameOf (stm 10)) (scopeOf (stm 10)) L f cd)).handled = none := R.handled
  have hgd : (A.deeper (envOfC (nameOf (stm 10)) (scopeOf (stm 10)) L f cd)).guards = some [] := R.guards
  have hu : (A.deeper (envOfC (nameOf (stm 10)) (scopeOf (stm 10)) L f cd)).units + 50 < 9900 := by have := R.units; show A.units + 3 + 50 < 9900; omega
  generalize A.deeper (envOfC (nameOf (stm 10)) (scopeOf (stm 10)) L f cd) = A₁ at R₁ rdy hh hgd hu ⊢
  have g₁ := R₁.below.stays
  have gL : G.get? L = none := stays_none gS nL
  have C : Cx G s L := ⟨fun i _ => Heap.get?_none_of_le (Nat.le_trans x.toInCall.fresh (Nat.le_add_right _ _)), gS⟩
  obtain ⟨h₁, tk, rfl⟩ := x.toInCall.same
  have k : Kept s.heap h₁ := .of_keeps x.toInCall.keep
  have S₁ : Step G s { s with heap := h₁, toks := tk } := .of g₁ k
  have B₁ : Box L h₁ _ (fun _ => none) := ⟨x.toInCall.ns, fun i i1 i2 => by
    match i, i1, i2 with
    | 1, _, _ => exact x.cell "one" (L + 1) rfl
    | 2, _, _ => exact x.cell "two" (L + 2) rfl
    | 3, _, _ => exact x.cell "ones" (L + 3) rfl
    | 4, _, _ => exact x.cell "others" (L + 4) rfl
    | 5, _, _ => exact x.cell "due" (L + 5) rfl
    | n + 6, _, q => omega⟩
  clear x
  -- one, two
  refine wpAny_execs_cons (assign_cells 1 2 C hh rfl rfl rfl rfl rfl (by decide) (by decide) ?_ rfl rfl rfl rfl rfl)
  refine comp_things (G := G) (cl := []) hh rfl (by decide) rfl (by decide) (fun _ => rfl) (fun _ => rfl) (fun _ => rfl) ?_
  refine name_local rfl rfl B₁.ns (v := .ref a) (by rfl) ⟨a, vs, is, s.heap, rfl, k_list k ha, k, hp, by omega, g₁, fun O s₂ os nO S₂ pO tO => ?_⟩
  have S₂' := S₁.trans S₂
  refine comp_things (G := G) (cl := []) hh rfl (by decide) rfl (by decide) (fun _ => rfl) (fun _ => rfl) (fun _ => rfl) ?_
  refine name_local rfl rfl (B₁.kept S₂.kept).ns (v := .ref b) (by rfl) ⟨b, us, js, s.heap, rfl, k_list S₂'.kept hb, S₂'.kept, hq, by omega, S₂.ground, fun T s₃ ts nT S₃ pT tT => ?_⟩
  refine ⟨_, _, S₂'.trans S₃, (B₁.kept S₂.kept).kept S₃.kept, fun s₄ S₄ B₄ M₄ => ?_⟩
  have pO₄ := M₄.plain (k_plainL S₃.kept pO)
  have pT₄ := M₄.plain pT
  clear M₄ pO pT S₃ S₂' S₂ nO nT B₁
  -- ones, others
  refine wpAny_execs_cons (assign_cells 3 4 C hh rfl rfl rfl rfl rfl (by decide) (by decide) ?_ rfl rfl rfl rfl rfl)
  refine comp_kinds (G := G) (cl := []) hh rfl (by decide) rfl (by decide) (fun _ => rfl) (fun _ => rfl) (fun _ => rfl) ?_
  refine name_local rfl rfl B₄.ns (v := .ref a) (by rfl) ⟨a, vs, is, rfl, k_list S₄.kept ha, k_pairs S₄.kept hp, by omega, S₄.ground, fun X s₅ xs nX S₅ pX iX => ?_⟩
  have S₅' := S₄.trans S₅
  refine comp_kinds (G := G) (cl := []) hh rfl (by decide) rfl (by decide) (fun _ => rfl) (fun _ => rfl) (fun _ => rfl) ?_
  refine name_local rfl rfl (B₄.kept S₅.kept).ns (v := .ref b) (by rfl) ⟨b, us, js, rfl, k_list S₅'.kept hb, k_pairs S₅'.kept hq, by omega, S₅.ground, fun Y s₆ ys nY S₆ pY iY => ?_⟩
  refine ⟨_, _, S₅'.trans S₆, (B₄.kept S₅.kept).kept S₆.kept, fun s₇ S₇ B₇ M₇ => ?_⟩
  have pO₇ := M₇.plain (k_plainL (S₅.kept.trans S₆.kept) pO₄)
  have pT₇ := M₇.plain (k_plainL (S₅.kept.trans S₆.kept) pT₄)
  have pX₇ := M₇.plain (k_plainL S₆.kept pX)
  have pY₇ := M₇.plain pY
  clear M₇ pO₄ pT₄ pX pY S₆ S₅' S₅ nX nY B₄ S₄
  -- apart, differ
  refine wpAny_execs_cons (assign_locals C hh rfl rfl rfl ?_ rfl rfl rfl rfl)
  refine comp_value (G := G) (cl := [("others", L + 4), ("ones", L + 3)]) hh rfl (by decide) rfl (by decide) ?_
  refine Call_ (name_builtin gd S₇.ground rfl rfl rfl rfl (by decide) (by decide) (v := .type "range") PyProof.Rows.Boot.«range» ?_)
  refine callWith_type1 (args_cons (wpAny_Constant_int (args_nil (call_range_1 ?_))))
  dsimp only
  generalize hHB : s₇.heap.push _ = hB
  have kB : ∀ b o, s₇.heap.get? b = some o → hB.get? b = some o := fun b o e => hHB ▸ Heap.get?_push_of_some _ e
  have gB : G.StaysIn hB := stays_keeps S₇.ground kB
  have BB := B₇.kept (.of_keeps kB)
  refine ⟨6, _, fun i => !(has is i == has js i), fun i y => ∃ t, y = .int ((i : Nat) : Int) t, .range rfl (hHB ▸ IsRange.new s₇.heap 0 6 1 _ _ _), by decide, gB, .inl ⟨_, _, rfl⟩, ?_, ?_⟩
  · intro D i v s₈ m E' nD hi hv S₈ hm
    obtain ⟨t, rfl⟩ := hv
    refine wpAny_assign_Name (store_local rfl rfl hm fun h₉ hm₉ sb₉ => ?_)
    have K₉ : Kept hB h₉ := S₈.kept.sameBut nD sb₉
    have g₉ := stays_extBut S₈.ground (stays_none gB nD) sb₉.extBut
    have B₉ := BB.kept K₉
    refine wpAny_tests_one (wpAny_isTrue_Compare1 ?_)
    refine wpAny_Compare1 (name_local rfl rfl hm₉ (upd_same ..) (name_cell rfl rfl rfl (B₉.at 3 rfl) (in_ints (k_list ((Kept.of_keeps kB).trans K₉) pX₇.isList) iX ?_)))
    refine wpAny_Compare1 (name_local rfl rfl hm₉ (upd_same ..) (name_cell rfl rfl rfl (B₉.at 4 rfl) (in_ints (k_list ((Kept.of_keeps kB).trans K₉) pY₇.isList) iY ?_)))
    refine bool_ne (wpAny_truthy_bool ⟨rfl, ?_⟩)
    have aft : ∀ tk, After G [D] (fun h => ∃ m, h.Ns D m) s₈ { s₈ with heap := h₉, toks := tk } := fun tk => .of_but g₉ hm₉ (.of_extBut (List.mem_singleton.mpr rfl) sb₉.extBut)
    cases hbb : !((is.map kind).contains i == (js.map kind).contains i) with
    | false =>
      simp only [Bool.false_eq_true, if_false]
      exact aft _
    | true =>
      simp only [if_true]
      exact name_local rfl rfl hm₉ (upd_same ..) ⟨⟨_, rfl⟩, aft _⟩
  intro P s₈ zs nP S₈ pP hP
  have iP : Ints zs (apart is js) := by
    have := paired_ints (f := fun i => i) hP
    rwa [List.map_id'] at this
  have S₈' : Step G s s₈ := (S₇.trans (.of (tk := _) gB (.of_keeps kB))).trans S₈
  have B₈ := BB.kept S₈.kept
  have k78 : Kept s₇.heap s₈.heap := (Kept.of_keeps kB).trans S₈.kept
  refine wpAny_BinOp ?_
  refine own_call gd gd.fn8 rfl S₈.ground rfl rfl rfl fun v₁ hv₁ => args_cons (name_cell rfl rfl rfl (B₈.at 3 rfl) (args_nil ⟨S₈.ground, ?_⟩))
  refine wpAny_mono (flag_call gd ((rdy S₈'.kept S₈'.ground B₈.ns).less (by omega) (by omega)) (k_list k78 pX₇.isList) iX hv₁) (fun r s₉ h₉ => ?_) fun _ _ e => e.elim
  obtain ⟨S₉, t₉, rfl⟩ := h₉
  have S₉' := S₈'.trans S₉
  have B₉ := B₈.kept S₉.kept
  refine own_call gd gd.fn8 rfl S₉.ground rfl rfl rfl fun v₂ hv₂ => args_cons (name_cell rfl rfl rfl (B₉.at 4 rfl) (args_nil ⟨S₉.ground, ?_⟩))
  refine wpAny_mono (flag_call gd ((rdy S₉'.kept S₉'.ground B₉.ns).less (by omega) (by omega)) (k_list (k78.trans S₉.kept) pY₇.isList) iY hv₂) (fun r s₁₀ h₁₀ => ?_) fun _ _ e => e.elim
  obtain ⟨S₁₀, t₁₀, rfl⟩ := h₁₀
  have S₁₀' := S₉'.trans S₁₀
  refine xor_int ⟨_, _, S₁₀'.trans (.tok S₁₀'.ground), B₉.kept S₁₀.kept, fun s₁₁ S₁₁ B₁₁ M₁₁ => ?_⟩
  have k10 := (k78.trans S₉.kept).trans S₁₀.kept
  have pO₁₁ := M₁₁.plain (k_plainL k10 pO₇)
  have pT₁₁ := M₁₁.plain (k_plainL k10 pT₇)
  have pX₁₁ := M₁₁.plain (k_plainL k10 pX₇)
  have pP₁₁ := M₁₁.plain (k_plainL (S₉.kept.trans S₁₀.kept) pP)
  clear M₁₁ k10 pO₇ pT₇ pX₇ pY₇ pP S₁₀' S₁₀ S₉' S₉ S₈ S₈' k78 B₉ B₈ BB hP nP gB kB hHB B₇ S₇
  -- told
  refine wpAny_execs_cons (wpAny_Assign_Name ?_)
  refine wpAny_List (args_cons ?_)
  refine own_call gd gd.fn5 rfl S₁₁.ground rfl rfl rfl fun v₁ hv₁ => args_cons (name_local rfl rfl B₁₁.ns (v := .int (xorOf is js) _) (by rfl) (args_nil ⟨S₁₁.ground, ?_⟩))
  refine wpAny_mono (high_call gd ((rdy S₁₁.kept S₁₁.ground B₁₁.ns).less (by omega) (by omega)) hv₁) (fun r s₁₂ h₁₂ => ?_) fun _ _ e => e.elim
  obtain ⟨S₁₂, t₁₂, rfl⟩ := h₁₂
  rw [high_law]
  have S₁₂' := S₁₁.trans S₁₂
  have B₁₂ := B₁₁.kept S₁₂.kept
  refine args_cons ?_
  refine own_call gd gd.fn4 rfl S₁₂.ground rfl rfl rfl fun v₂ hv₂ => args_cons (name_local rfl rfl B₁₂.ns (v := .int (xorOf is js) _) (by rfl) (args_nil ⟨S₁₂.ground, ?_⟩))
  refine wpAny_mono (single_call gd ((rdy S₁₂'.kept S₁₂'.ground B₁₂.ns).less (by omega) (by omega)) hv₂) (fun r s₁₃ h₁₃ => ?_) fun _ _ e => e.elim
  obtain ⟨S₁₃, rfl⟩ := h₁₃
  rw [single_law]
  have S₁₃' := S₁₂'.trans S₁₃
  have B₁₃ := B₁₂.kept S₁₃.kept
  refine args_cons ?_
  refine own_call gd gd.fn2 rfl S₁₃.ground rfl rfl rfl fun v₃ hv₃ => args_cons (name_cell rfl rfl rfl (B₁₃.at 1 rfl) (args_cons (name_cell rfl rfl rfl (B₁₃.at 2 rfl) (args_nil ⟨S₁₃.ground, ?_⟩))))
  have k13 := S₁₂.kept.trans S₁₃.kept
  have lO : os.length ≤ 900 := by rw [tO.length, ← hp.length]; exact hz
  have lT : ts.length ≤ 900 := by rw [tT.length, ← hq.length]; exact hz'
  refine wpAny_mono (cmp_call gd (rdy S₁₃'.kept S₁₃'.ground B₁₃.ns) (k_list k13 pO₁₁.isList) (k_list k13 pT₁₁.isList) (k_things S₁₃'.kept tO) (k_things S₁₃'.kept tT) (by omega) (by omega) hv₃) (fun r s₁₄ h₁₄ => ?_) fun _ _ e => e.elim
  obtain ⟨S₁₄, rfl⟩ := h₁₄
  rw [cmp_law]
  have S₁₄' := S₁₃'.trans S₁₄
  have B₁₄ := B₁₃.kept S₁₄.kept
  have k14 := k13.trans S₁₄.kept
  refine args_nil ⟨(show 3 ≤ 16777216 by decide), ?_⟩
  have pU := plain_new s₁₄.heap [Value.int (lastOf (apart is js)) t₁₂, .bool ((apart is js).length == 1), .bool (apart is js).isEmpty]
  refine st_local C (S₁₄'.trans (.push S₁₄'.ground)) (B₁₄.kept (.push _ _)) rfl rfl fun s₁₅ S₁₅ B₁₅ M₁₅ => ?_
  have M' := (k14.trans (.push _ _)).mild.trans M₁₅
  have pO₁₅ := M'.plain pO₁₁
  have pT₁₅ := M'.plain pT₁₁
  have pX₁₅ := M'.plain pX₁₁
  have pP₁₅ := M'.plain pP₁₁
  have pU₁₅ := M₁₅.plain pU
  clear M' M₁₅ pU k14 k13 pO₁₁ pT₁₁ pX₁₁ pP₁₁ S₁₄' S₁₄ S₁₃' S₁₃ S₁₂' S₁₂ B₁₂ B₁₃ B₁₄ B₁₁ S₁₁
  generalize s₁₄.heap.objs.size = U at B₁₅ pU₁₅
  -- the if
  have hz6 : (apart is js).length ≤ 6 := by
    have := List.length_filter_le (fun k => !(has is k == has js k)) (List.range 6)
    rwa [List.length_range] at this
  have lP : zs.length ≤ 6 := by rw [iP.length]; exact hz6
  have hfs : ∀ h (t : Tok), ∀ i y, ([Value.int (lastOf (apart is js)) t, .bool ((apart is js).length == 1), .bool (apart is js).isEmpty] : List Value)[i]? = some y →
      Shows prog w A₁ h y (([Str.ofString (toString (lastOf (apart is js))), if ((apart is js).length == 1) then "True" else "False", if (apart is js).isEmpty then "True" else "False"] : List Str).getD i "") := by
    intro h t i y e
    match i, e with
    | 0, e => cases e; exact shows_int (last_small is js)
    | 1, e => cases e; exact shows_bool
    | 2, e => cases e; exact shows_bool
    | n + 3, e => simp at e
  refine wpAny_execs_cons (wpAny_If (wpAny_isTrue_Compare1 ?_))
  refine comp_strs (G := G) (cl := []) gd hh rfl (by decide) rfl (by decide) (fun _ => rfl) (fun _ => rfl) (fun _ => rfl) (fun _ => rfl) (fun _ => rfl) (by decide) ?_
  refine name_local rfl rfl B₁₅.ns (upd_same ..) ⟨U, _, _, rfl, pU₁₅.isList, hfs _ _, (show 3 ≤ 1000 by decide), S₁₅.ground, fun V s₁₆ ws nV S₁₆ pV tV => ?_⟩
  have B₁₆ := B₁₅.kept S₁₆.kept
  have S₁₆' := S₁₅.trans S₁₆
  refine comp_strs (G := G) (cl := []) gd hh rfl (by decide) rfl (by decide) (fun _ => rfl) (fun _ => rfl) (fun _ => rfl) (fun _ => rfl) (fun _ => rfl) (by decide) ?_
  refine wpAny_List (args_cons ?_)
  refine wpAny_mono (Q := fun r s' => (∃ t, r = .int (lastOf (apart is js)) t) ∧ ∃ h' tk, s' = { s₁₆ with heap := h', toks := tk } ∧ ∀ b o, s₁₆.heap.get? b = some o → h'.get? b = some o) (E := fun _ _ => False) ?sub ?cont fun _ _ e => e
  case sub =>
    refine sub_neg (wpAny_BinOp ?_)
    refine List_ (args_cons (wpAny_UnaryOp (wpAny_Constant_int (PySem.P.neg_int (args_nil ?_)))))
    dsimp only
    generalize s₁₆.toks + 1 = t1
    refine wpAny_newObj_type ?_ (by size_fits)
    have pN := plain_new s₁₆.heap [Value.int (-1) t1]
    have kN : ∀ b o, s₁₆.heap.get? b = some o → (s₁₆.heap.push { cls := .type "list", data := .seq [Value.int (-1) t1].toArray }).get? b = some o := fun b o e => Heap.get?_push_of_some _ e
    dsimp only
    generalize s₁₆.heap.objs.size = N at pN ⊢
    generalize s₁₆.heap.push { cls := .type "list", data := .seq [Value.int (-1) t1].toArray } = h₁₇ at pN kN ⊢
    refine name_local rfl rfl (B₁₆.kept (.of_keeps kN)).ns (v := .ref P) (by rfl) ?_
    refine add_two pN.isList (k_list (S₁₆.kept.trans (.of_keeps kN)) pP₁₅.isList) (show 1 + zs.length ≤ 10000 by omega) fun pZ => ?_
    have kZ : ∀ b o, h₁₇.get? b = some o → (h₁₇.push { cls := .type "list", data := .seq ([Value.int (-1) t1] ++ zs).toArray }).get? b = some o := fun b o e => Heap.get?_push_of_some _ e
    dsimp only at pZ ⊢
    generalize h₁₇.objs.size = Z at pZ ⊢
    generalize h₁₇.push { cls := .type "list", data := .seq ([Value.int (-1) t1] ++ zs).toArray } = h₁₈ at pZ kZ ⊢
    obtain ⟨tl, hlast⟩ := last_item (t0 := t1) iP
    refine wpAny_UnaryOp (wpAny_Constant_int (PySem.P.neg_int ⟨Z, _, -1, _, .int (lastOf (apart is js)) tl, rfl, rfl, pZ.isList, by decide, ?_, by decide, ?_, ⟨tl, rfl⟩, h₁₈, _, rfl, fun b o e => kZ b o (kN b o e)⟩))
    · simp only [List.size_toArray, List.length_append, List.length_singleton]; omega
    · simp only [List.size_toArray, List.length_cons, List.singleton_append]
      rw [show (-1 + ((zs.length + 1 : Nat) : Int)).toNat = zs.length by omega]
      simpa using hlast
  case cont =>
  rintro r s₁₇ ⟨⟨tl, rfl⟩, h₁₇, tk₁₇, rfl, k17⟩
  have B₁₇ := B₁₆.kept (.of_keeps k17)
  have hP17 := k_list (S₁₆.kept.trans (.of_keeps k17)) pP₁₅.isList
  have g₁₇ := stays_keeps S₁₆.ground k17
  refine args_cons (wpAny_Compare1 ?_)
  refine Call_ (name_builtin gd g₁₇ rfl rfl rfl rfl (by decide) (by decide) (v := .builtin "len") PyProof.Rows.Boot.«len» ?_)
  refine callWith_builtin1 (args_cons (name_local rfl rfl B₁₇.ns (v := .ref P) (by rfl) (args_nil (call_len_list hP17 (by rw [List.size_toArray]; exact Int.lt_of_le_of_lt (show (zs.length : Int) ≤ 6 by omega) (by decide)) ?_))))
  rw [List.size_toArray]
  refine wpAny_Constant_int (eq_int ?_)
  dsimp only
  generalize tk₁₇ + 1 = tk₁₈
  refine args_cons (wpAny_Compare1 (name_local rfl rfl B₁₇.ns (v := .ref P) (by rfl) (List_ (args_nil (wpAny_newObj_type ?_ (by size_fits))))))
  have e1 : ((zs.length : Int) == 1) = ((apart is js).length == 1) := by rw [iP.length, Bool.eq_iff_iff, beq_iff_eq, beq_iff_eq]; omega
  have e2 : zs.isEmpty = (apart is js).isEmpty := by rw [Bool.eq_iff_iff, List.isEmpty_iff_length_eq_zero, List.isEmpty_iff_length_eq_zero, iP.length]
  refine empty_eq (k_list (.push _ _) hP17) (plain_new _ []).isList (by omega) (args_nil ⟨(show 3 ≤ 16777216 by decide), ?_⟩)
  rw [e1, e2]
  dsimp only
  have kE : ∀ b o, h₁₇.get? b = some o → (h₁₇.push { cls := .type "list", data := .seq ([] : List Value).toArray }).get? b = some o := fun b o e => Heap.get?_push_of_some _ e
  generalize h₁₇.push { cls := .type "list", data := .seq ([] : List Value).toArray } = h₁₈ at kE ⊢
  have pF := plain_new h₁₈ [Value.int (lastOf (apart is js)) tl, .bool ((apart is js).length == 1), .bool (apart is js).isEmpty]
  have kF : ∀ b o, h₁₈.get? b = some o → (h₁₈.push { cls := .type "list", data := .seq ([Value.int (lastOf (apart is js)) tl, .bool ((apart is js).length == 1), .bool (apart is js).isEmpty]).toArray }).get? b = some o := fun b o e => Heap.get?_push_of_some _ e
  generalize h₁₈.objs.size = F at pF ⊢
  generalize h₁₈.push { cls := .type "list", data := .seq ([Value.int (lastOf (apart is js)) tl, .bool ((apart is js).length == 1), .bool (apart is js).isEmpty]).toArray } = h₁₉ at pF kF ⊢
  have k19 : ∀ b o, s₁₆.heap.get? b = some o → h₁₉.get? b = some o := fun b o e => kF b o (kE b o (k17 b o e))
  refine ⟨F, _, _, rfl, pF.isList, hfs _ _, (show 3 ≤ 1000 by decide), stays_keeps S₁₆.ground k19, fun V' s₂₀ ws' nV' S₂₀ pV' tV' => ?_⟩
  refine texts_ne (k_list ((Kept.of_keeps k19).trans S₂₀.kept) pV.isList) pV'.isList tV tV' (by omega) rfl (wpAny_truthy_bool ?_)
  simp only [Bool.false_eq_true, if_false]
  refine wpAny_execs_nil ?_
  have S₂₀' : Step G s s₂₀ := (S₁₆'.set (tk := tk₁₈) (stays_keeps S₁₆'.ground k19) (S₁₆'.kept.trans (.of_keeps k19))).trans S₂₀
  have k20 : Kept s₁₅.heap s₂₀.heap := (S₁₆.kept.trans (.of_keeps k19)).trans S₂₀.kept
  have B₂₀ := B₁₅.kept k20
  have pO₂₀ := k_plainL k20 pO₁₅
  have pT₂₀ := k_plainL k20 pT₁₅
  have pX₂₀ := k_plainL k20 pX₁₅
  have pP₂₀ := k_plainL k20 pP₁₅
  clear pO₁₅ pT₁₅ pX₁₅ pP₁₅ pU₁₅ k20 B₁₅ S₁₅ S₁₆ S₁₆' B₁₆ B₁₇ hP17 g₁₇ kE kF k17 k19 S₂₀ pV pV' tV tV' nV nV' pF e1 e2 hfs
  -- mends
  refine wpAny_execs_cons (comp_assign (G := G) (cl := [("two", L + 2), ("one", L + 1)]) hh rfl rfl (by decide) rfl (by decide) rfl rfl ?_ gL)
  refine own_call0 gd gd.fn7 rfl S₂₀'.ground rfl rfl rfl fun v₁ hv₁ => ?_
  refine wpAny_mono (things_call gd ((rdy S₂₀'.kept S₂₀'.ground B₂₀.ns).less (by omega) (by omega)) hv₁) (fun r sB hB => ?_) fun _ _ e => e.elim
  obtain ⟨SB, Th, hs, rfl, nTh, pTh, pairs⟩ := hB
  have pairs : PairsAt sB.heap hs ten := pairs
  have SB' := S₂₀'.trans SB
  have BB := B₂₀.kept SB.kept
  have pO' := k_plainL SB.kept pO₂₀
  have pT' := k_plainL SB.kept pT₂₀
  refine ⟨hs.length, _, fun i => cmp (is ++ [ten.getD i 0]) js || cmp is (js ++ [ten.getD i 0]), fun i y => ∃ t, y = .int ((kd ten i : Nat) : Int) t, _, .list rfl pTh.isList, by rw [pairs.length]; decide, SB.ground, .inr ⟨⟨_, _, _, rfl⟩, ?_⟩, ?_, BB.ns, ?_⟩
  · intro i v hv
    obtain ⟨j, _, q⟩ := pairs.get hv
    obtain ⟨_, p, x, t, rfl, _⟩ := q
    exact ⟨p, rfl⟩
  · intro D i v s₁ m E' nD hi hv S₁ hm
    obtain ⟨j, hj, q⟩ := pairs.get hv
    obtain ⟨hj10, p, x, t, rfl, pl, ht⟩ := q
    refine assign_pair (G := G) hh (k_plainL S₁.kept pl).isList rfl rfl rfl hm S₁.ground (stays_none SB.ground nD) fun h₂ tk₂ hm₂ kb g₂ => ?_
    have K₂ : Kept sB.heap h₂ := S₁.kept.thenBut kb (fun b hb => (List.mem_singleton.mp hb) ▸ nD)
    have hthing := fun (m : Str → Option Value) (y : Value) => show upd (upd m "thing" x) "kind" y "thing" = some x by rw [upd_ne _ _ (by decide)]; exact upd_same ..
    refine wpAny_tests_one (wpAny_isTrue_BoolOp (wpAny_allTrue_Or_cons (wpAny_isTrue_value ?_)))
    refine own_call gd gd.fn2 rfl g₂ rfl rfl rfl fun v₂ hv₂ => args_cons ?_
    refine plus_thing rfl rfl rfl ((BB.kept K₂).at 1 rfl) (k_list K₂ pO'.isList) rfl hm₂ (hthing _ _) lO (by decide) rfl fun N h₃ k₃ pN => ?_
    have K₃ := K₂.trans (.of_keeps k₃)
    have g₃ := stays_keeps g₂ k₃
    have K₃' := SB'.kept.trans K₃
    have tN : Things h₃ (os ++ [x]) (is ++ [j]) := (k_things K₃' tO).append (.cons hj10 (k_thing K₃ ht) .nil)
    refine args_cons (name_cell rfl rfl rfl ((BB.kept K₃).at 2 rfl) (args_nil ⟨g₃, ?_⟩))
    refine wpAny_mono (cmp_call gd (rdy K₃' g₃ (BB.kept K₃).ns) pN.isList (k_list K₃ pT'.isList) tN (k_things K₃' tT) (by rw [List.length_append]; show os.length + 1 ≤ 1000; omega) (by omega) hv₂) (fun r s₄ h₄ => ?_) fun _ _ e => e.elim
    obtain ⟨⟨h₄, tk₄, rfl, g₄, k₄⟩, rfl⟩ := h₄
    have K₄ := K₃.trans k₄
    have kb₄ : KeptBut [D] s₁.heap h₄ := kb.trans ((Kept.of_keeps k₃).trans k₄).but
    have hm₄ := k_ns ((Kept.of_keeps k₃).trans k₄) hm₂
    refine wpAny_truthy_bool ?_
    cases hc1 : cmp (is ++ [j]) js with
    | true =>
      simp only [if_true]
      refine ⟨?_, ?_⟩
      · show true = (cmp (is ++ [ten.getD i 0]) js || cmp is (js ++ [ten.getD i 0]))
        rw [getD_of hj, hc1]; rfl
      · exact name_local rfl rfl hm₄ (upd_same ..) ⟨⟨t, by rw [kd_of hj]⟩, After.of_but g₄ hm₄ kb₄⟩
    | false =>
      simp only [Bool.false_eq_true, if_false]
      refine wpAny_allTrue_Or_cons (wpAny_isTrue_value ?_)
      refine own_call gd gd.fn2 rfl g₄ rfl rfl rfl fun v₃ hv₃ => args_cons ?_
      refine name_cell rfl rfl rfl ((BB.kept K₄).at 1 rfl) (args_cons ?_)
      refine plus_thing rfl rfl rfl ((BB.kept K₄).at 2 rfl) (k_list K₄ pT'.isList) rfl hm₄ (hthing _ _) lT (by decide) rfl fun N' h₅ k₅ pN' => ?_
      have K₅ := K₄.trans (.of_keeps k₅)
      have g₅ := stays_keeps g₄ k₅
      have K₅' := SB'.kept.trans K₅
      have tN' : Things h₅ (ts ++ [x]) (js ++ [j]) := (k_things K₅' tT).append (.cons hj10 (k_thing K₅ ht) .nil)
      refine args_nil ⟨g₅, ?_⟩
      refine wpAny_mono (cmp_call gd (rdy K₅' g₅ (BB.kept K₅).ns) (k_list K₅ pO'.isList) pN'.isList (k_things K₅' tO) tN' (by omega) (by rw [List.length_append]; show ts.length + 1 ≤ 1000; omega) hv₃) (fun r s₆ h₆ => ?_) fun _ _ e => e.elim
      obtain ⟨⟨h₆, tk₆, rfl, g₆, k₆⟩, rfl⟩ := h₆
      have kb₆ : KeptBut [D] s₁.heap h₆ := kb₄.trans ((Kept.of_keeps k₅).trans k₆).but
      have hm₆ := k_ns ((Kept.of_keeps k₅).trans k₆) hm₄
      refine wpAny_truthy_bool ?_
      cases hc2 : cmp is (js ++ [j]) with
      | true =>
        simp only [if_true]
        refine ⟨?_, ?_⟩
        · show true = (cmp (is ++ [ten.getD i 0]) js || cmp is (js ++ [ten.getD i 0]))
          rw [getD_of hj, hc1, hc2]; rfl
        · exact name_local rfl rfl hm₆ (upd_same ..) ⟨⟨t, by rw [kd_of hj]⟩, After.of_but g₆ hm₆ kb₆⟩
      | false =>
        simp only [Bool.false_eq_true, if_false]
        refine wpAny_allTrue_Or_nil ⟨?_, ?_⟩
        · show false = (cmp (is ++ [ten.getD i 0]) js || cmp is (js ++ [ten.getD i 0]))
          rw [getD_of hj, hc1, hc2]; rfl
        · simp only [Bool.false_eq_true, if_false]
          exact After.of_but g₆ hm₆ kb₆
  intro W s₂₁ ms nW af pW hW
  obtain ⟨h₂₁, tk₂₁, rfl, g₂₁, hn₂₁, kb₂₁⟩ := af
  have iW := paired_ints (f := fun i => kd ten i) hW
  have B₂₁ := BB.after kb₂₁ hn₂₁
  have M₂₁ := mild_but BB.ns kb₂₁
  have S₂₁ : Step G s { sB with heap := h₂₁, toks := tk₂₁ } := SB'.set g₂₁ (SB'.kept.thenBut kb₂₁ (fun b hb => (List.mem_singleton.mp hb) ▸ nL))
  have pX₂₁ := M₂₁.plain (k_plainL SB.kept pX₂₀)
  have pP₂₁ := M₂₁.plain (k_plainL SB.kept pP₂₀)
  have pW₂₁ : PlainL h₂₁ W ms.toArray := pW
  clear pO' pT' pO₂₀ pT₂₀ pX₂₀ pP₂₀ BB SB' SB kb₂₁ M₂₁ pW hW nW pTh nTh B₂₀ S₂₀'
  -- due
  refine wpAny_execs_cons (wpAny_Assign_Name ?_)
  refine wpAny_mono (Q := fun r s' => ∃ h' tk, s' = { sB with heap := h', toks := tk } ∧ (∀ b o, h₂₁.get? b = some o → h'.get? b = some o) ∧ ∃ d ds dn, r = .ref d ∧ PlainL h' d (ds : List Value).toArray ∧ Ints ds dn ∧ ∀ k, dn.contains k = dueP (has is) (has js) k) (E := fun _ _ => False) ?due ?cont fun _ _ e => e
  case due =>
    refine wpAny_IfExp (wpAny_isTrue_Compare1 (name_local rfl rfl B₂₁.ns (v := .ref P) (by rfl) (List_ (args_nil (wpAny_newObj_type ?_ (by size_fits))))))
    have kE : ∀ b o, h₂₁.get? b = some o → (h₂₁.push { cls := .type "list", data := .seq ([] : List Value).toArray }).get? b = some o := fun b o e => Heap.get?_push_of_some _ e
    refine empty_eq (k_list (.of_keeps kE) pP₂₁.isList) (plain_new _ []).isList (by omega) (wpAny_truthy_bool ?_)
    dsimp only
    generalize h₂₁.push { cls := .type "list", data := .seq ([] : List Value).toArray } = h₂₂ at kE ⊢
    have B₂₂ := B₂₁.kept (.of_keeps kE)
    have eE : (apartP (has is) (has js)).isEmpty = zs.isEmpty := by rw [Bool.eq_iff_iff, List.isEmpty_iff_length_eq_zero, List.isEmpty_iff_length_eq_zero, iP.length]; rfl
    have eL : ((apartP (has is) (has js)).length == 1) = ((zs.length : Int) == 1) := by rw [Bool.eq_iff_iff, beq_iff_eq, beq_iff_eq, iP.length]; show (apart is js).length = 1 ↔ _; omega
    cases hE : zs.isEmpty with
    | true =>
      simp only [if_true]
      refine name_cell rfl rfl rfl (B₂₂.at 3 rfl) ⟨h₂₂, _, rfl, kE, X, xs, is.map kind, rfl, k_plainL (.of_keeps kE) pX₂₁, iX, fun k => ?_⟩
      unfold dueP; rw [eE, hE]; rfl
    | false =>
      simp only [Bool.false_eq_true, if_false]
      refine wpAny_IfExp (wpAny_isTrue_Compare1 ?_)
      refine Call_ (name_builtin gd (stays_keeps g₂₁ kE) rfl rfl rfl rfl (by decide) (by decide) (v := .builtin "len") PyProof.Rows.Boot.«len» ?_)
      refine callWith_builtin1 (args_cons (name_local rfl rfl B₂₂.ns (v := .ref P) (by rfl) (args_nil (call_len_list (k_list (.of_keeps kE) pP₂₁.isList) (by rw [List.size_toArray]; exact Int.lt_of_le_of_lt (show (zs.length : Int) ≤ 6 by omega) (by decide)) ?_))))
      rw [List.size_toArray]
      refine wpAny_Constant_int (eq_int (wpAny_truthy_bool ?_))
      cases hL1 : ((zs.length : Int) == 1) with
      | true =>
        simp only [if_true]
        refine name_local rfl rfl B₂₂.ns (v := .ref P) (by rfl) ⟨h₂₂, _, rfl, kE, P, zs, apart is js, rfl, k_plainL (.of_keeps kE) pP₂₁, iP, fun k => ?_⟩
        unfold dueP; rw [eE, hE, eL, hL1]; rfl
      | false =>
        simp only [Bool.false_eq_true, if_false]
        refine List_ (args_nil (wpAny_newObj_type ⟨_, _, rfl, fun b o e => Heap.get?_push_of_some _ (kE b o e), _, [], [], rfl, plain_new _ [], .nil, fun k => ?_⟩ (by size_fits)))
        unfold dueP; rw [eE, hE, eL, hL1]; rfl
  case cont =>
  rintro r s₂₂ ⟨h₂₂, tk₂₂, rfl, k22, d, ds, dn, rfl, pd, iD, hD⟩
  refine st_cell 5 C (S₂₁.set (stays_keeps g₂₁ k22) (S₂₁.kept.trans (.of_keeps k22))) (B₂₁.kept (.of_keeps k22)) rfl rfl rfl (by decide) (by decide) fun s₂₃ S₂₃ B₂₃ M₂₃ => ?_
  have pW₂₃ := M₂₃.plain (k_plainL (.of_keeps k22) pW₂₁)
  have pd₂₃ := M₂₃.plain pd
  -- return
  refine wpAny_execs_cons (wpAny_Return_some (wpAny_Compare1 ?_))
  refine name_local rfl rfl B₂₃.ns (v := .ref W) (by rfl) ?_
  refine comp_value (G := G) (cl := [("due", L + 5)]) hh rfl (by decide) rfl (by decide) ?_
  refine own_call0 gd gd.fn7 rfl S₂₃.ground rfl rfl rfl fun v₁ hv₁ => ?_
  refine wpAny_mono (things_call gd ((rdy S₂₃.kept S₂₃.ground B₂₃.ns).less (by omega) (by omega)) hv₁) (fun r sC hC => ?_) fun _ _ e => e.elim
  obtain ⟨SC, Th', hs', rfl, nTh', pTh', pairs'⟩ := hC
  have pairs' : PairsAt sC.heap hs' ten := pairs'
  have BC := B₂₃.kept SC.kept
  refine ⟨hs'.length, _, fun i => dueP (has is) (has js) (kd ten i), fun i y => ∃ t, y = .int ((kd ten i : Nat) : Int) t, .list rfl pTh'.isList, by rw [pairs'.length]; decide, SC.ground, .inr ⟨⟨_, _, _, rfl⟩, ?_⟩, ?_, ?_⟩
  · intro i v hv
    obtain ⟨j, _, q⟩ := pairs'.get hv
    obtain ⟨_, p, x, t, rfl, _⟩ := q
    exact ⟨p, rfl⟩
  · intro D i v s₁ m E' nD hi hv S₁ hm
    obtain ⟨j, hj, q⟩ := pairs'.get hv
    obtain ⟨hj10, p, x, t, rfl, pl, ht⟩ := q
    refine assign_pair (G := G) hh (k_plainL S₁.kept pl).isList rfl rfl rfl hm S₁.ground (stays_none SC.ground nD) fun h₂ tk₂ hm₂ kb g₂ => ?_
    have K₂ : Kept sC.heap h₂ := S₁.kept.thenBut kb (fun b hb => (List.mem_singleton.mp hb) ▸ nD)
    refine wpAny_tests_one (wpAny_isTrue_Compare1 ?_)
    refine name_local rfl rfl hm₂ (upd_same ..) (name_cell rfl rfl rfl ((BC.kept K₂).at 5 rfl) (in_ints (k_list (SC.kept.trans K₂) pd₂₃.isList) iD (wpAny_truthy_bool ⟨?_, ?_⟩)))
    · show dn.contains (kind j) = dueP (has is) (has js) (kd ten i)
      rw [kd_of hj, hD]
    · cases hc : dn.contains (kind j) with
      | false =>
        simp only [Bool.false_eq_true, if_false]
        exact After.of_but g₂ hm₂ kb
      | true =>
        simp only [if_true]
        exact name_local rfl rfl hm₂ (upd_same ..) ⟨⟨t, by rw [kd_of hj]⟩, After.of_but g₂ hm₂ kb⟩
  intro Z s₂₄ es nZ S₂₄ pZ hZ
  have iZ := paired_ints (f := fun i => kd ten i) hZ
  refine ints_eq (k_list (SC.kept.trans S₂₄.kept) pW₂₃.isList) pZ.isList iW iZ (by omega) ?_ ⟨(S₂₃.trans SC).trans S₂₄, rfl⟩
  rw [pairs.length, pairs'.length]
  congr 1
  apply List.filter_congr
  intro i _
  exact mend_law is js (ten.getD i 0)
end Mine

open PySem PySem.W PyProof.Rows
set_option Elab.async false
set_option maxRecDepth 100000
namespace Mine
open PySem.SeqAt PySem.Calls

/-- all but the frame's own object is kept, and that one is no dict of the one key 'k' -/
structure Off (L : Addr) (h h' : Heap) : Prop where
  ns : ∃ m v, h.Ns L m ∧ m "script" = some v
  but : KeptBut [L] h h'
theorem Off.seq {L : Addr} {h h' : Heap} (x : Off L h h') {a : Addr} {o : Obj} {it : Array Value} {n : Nat} (e : h.get? a = some o) (d : o.data = .seq it n) : h'.get? a = some o := by
  obtain ⟨m, v, hn, _⟩ := x.ns
  exact mild_but hn x.but a o it n e d
mutual
theorem off_reads {L : Addr} {h h' : Heap} (x : Off L h h') : ∀ {v d as}, Reads h v d as → d.hasDict = false → Reads h' v d as
  | _, _, _, .none, _ => .none
  | _, _, _, .bool b, _ => .bool b
  | _, _, _, .int i t, _ => .int i t
  | _, _, _, .str y t, _ => .str y t
  | _, _, _, .list ho hc hd r, q => .list (x.seq ho hd) hc hd (off_readsAll x r q)
  | _, _, _, .tuple ho hc hd r, q => .tuple (x.seq ho hd) hc hd (off_readsAll x r q)
  | _, _, _, .dict ho hc hd r r', q => by cases q
theorem off_readsAll {L : Addr} {h h' : Heap} (x : Off L h h') : ∀ {vs ds as}, ReadsAll h vs ds as → PyData.hasDictAll ds = false → ReadsAll h' vs ds as
  | _, _, _, .nil, _ => .nil
  | _, _, _, .cons r rs, q => by
    rw [PyData.hasDictAll, Bool.or_eq_false_iff] at q
    exact .cons (off_reads x r q.1) (off_readsAll x rs q.2)
end
theorem noDict_tab : ∀ i, i < 10 → flat i = true → (datum i).hasDict = false := by decide +kernel
theorem off_dk {L : Addr} {h h' : Heap} (x : Off L h h') {a : Addr} {u : Value} (d : DK h a u) : DK h' a u := by
  obtain ⟨o, hs, t, n, ho, hc, hd⟩ := d
  obtain ⟨m, v, ⟨o', es, ep, ho', hd', _, hf⟩, hm⟩ := x.ns
  have ne : a ∉ [L] := fun q => by
    obtain rfl := List.mem_singleton.mp q
    rw [ho] at ho'; cases ho'
    rw [hd] at hd'; cases hd'
    have := hf "script"
    rw [hm] at this
    have e : nsFind #[⟨hs, .str "k" t, u⟩] "script" = none := by rfl
    rw [e] at this; cases this
  obtain ⟨_, e, sl, rfl, _⟩ := x.but a o ne ho
  exact ⟨_, hs, t, n, e, hc, hd⟩
theorem off_thing {L : Addr} {h h' : Heap} (x : Off L h h') {v : Value} {i : Nat} (hi : i < 10) (t : Thing h v i) : Thing h' v i := by
  cases t with
  | flat f r => exact .flat f (off_reads x r (noDict_tab i hi f))
  | one n d => exact .one n (off_dk x d)
  | yes n d => exact .yes n (off_dk x d)
theorem off_pair {L : Addr} {h h' : Heap} (x : Off L h h') {v : Value} {i : Nat} (q : Pair h v i) : Pair h' v i := by
  obtain ⟨hi, p, y, t, rfl, ⟨o, n, e, c, d, s⟩, ht⟩ := q
  exact ⟨hi, p, y, t, rfl, ⟨o, n, x.seq e s, c, d, s⟩, off_thing x hi ht⟩
theorem off_pairs {L : Addr} {h h' : Heap} (x : Off L h h') {vs : List Value} {is : List Nat} (q : PairsAt h vs is) : PairsAt h' vs is := by
  induction q with
  | nil => exact .nil
  | cons a _ ih => exact .cons (off_pair x a) ih

section
variable {prog : Program} {w : World} {A : Around} {E : Value → Shared → Prop} {s : Shared} {env : Env} {G : Heap}
theorem assign_locals0 {e1 e2 : Expr} {x y : Str} {px py tp vp pos : Pos} {k k' : Nat} {Q : Flow → Shared → Prop} (gL : G.get? env.locals = none) (hh : A.handled = none) (hk : env.scope.kind = .function) (hx : env.kindOf x = some .local) (hy : env.kindOf y = some .local)
    (h : wpAny (model prog w) A (eval e1 env) (fun v1 s1 => wpAny (model prog w) A (eval e2 env) (fun v2 s2 => ∃ m, s2.heap.Ns env.locals m ∧ G.StaysIn s2.heap ∧
      ∀ h' tk, h'.Ns env.locals (upd (upd m y v2) x v1) → KeptBut [env.locals] s2.heap h' → G.StaysIn h' → Q .next { s2 with heap := h', toks := tk }) E s1) E s)
    (he : starEach [e1, e2] env = (false, eval e1 env) :: starEach [e2] env) (he' : starEach [e2] env = (false, eval e2 env) :: starEach [] env) (hs : swapsWithSole [.Tuple [.Name x px, .Name y py] k tp] (.Tuple [e1, e2] k' vp) pos.line env = pure false) (hw : swappedStores [.Tuple [.Name x px, .Name y py] k tp] (.Tuple [e1, e2] k' vp) env = pure (some [x, y])) :
    wpAny (model prog w) A (exec (.Assign [.Tuple [.Name x px, .Name y py] k tp] (.Tuple [e1, e2] k' vp) pos) env) Q E s := by
  refine Assign_Tuple_swapped (names := [x, y]) ?_ hs hw
  refine wpAny_Tuple ?_
  refine args_cons (wpAny_mono h (fun v1 s1 h1 => ?_) fun _ _ e => e) he
  refine args_cons (wpAny_mono h1 (fun v2 s2 h2 => ?_) fun _ _ e => e) he'
  obtain ⟨m, hn, g, hQ⟩ := h2
  refine args_nil ⟨(show 2 ≤ 16777216 by decide), ?_⟩
  have hT : (s2.heap.push { cls := .type "tuple", data := .seq [v1, v2].toArray }).IsTuple s2.heap.objs.size #[v1, v2] := ⟨_, Heap.get?_push_size _ rfl, rfl, _, rfl⟩
  have e2 : ([x, y] : List Str).length = (#[v1, v2] : Array Value).size := rfl
  rw [e2]
  refine wpAny_unpackItems_tuple hh hT fun h' eb => ?_
  have k1 : ∀ b o, s2.heap.get? b = some o → h'.get? b = some o := fun b o e => eb b o (Nat.ne_of_lt (Nat.lt_of_lt_of_le (Heap.lt_size e) (by rw [Heap.size_push]; exact Nat.le_succ _))) (Heap.get?_push_of_some _ e)
  show wpAny _ _ (assignInOrder [bindName env y, bindName env x] [v2, v1]) _ _ _
  rw [assignInOrder]
  refine wpAny_bind (wpAny_holding (bindName_ (store_local hk hy (hn.keeps k1) fun h3 hn3 sb3 => ?_)))
  rw [assignInOrder]
  refine wpAny_bind (wpAny_holding (bindName_ (store_local hk hx hn3 fun h4 hn4 sb4 => ?_)))
  rw [assignInOrder]
  · refine wpAny_pure (hQ h4 _ hn4 ?_ (stays_extBut (stays_extBut (stays_keeps g k1) gL sb3.extBut) gL sb4.extBut))
    intro c o hc e
    exact ⟨o, sb4.extBut c o (fun q => hc (List.mem_singleton.mpr q)) (sb3.extBut c o (fun q => hc (List.mem_singleton.mpr q)) (k1 c o e)), .refl o⟩
  · intro _ _ _ _ q; cases q
end

/-- ints -/
def AllInt (ws : List Value) : Prop := ∀ x ∈ ws, ∃ z t, x = Value.int z t
theorem allInt_of {vs : List Value} {ns : List Int} (h : IntsAre vs ns) : AllInt vs := by
  induction h with
  | nil => intro x hx; cases hx
  | cons n t _ ih =>
    intro x hx
    rcases List.mem_cons.mp hx with rfl | hx
    · exact ⟨_, _, rfl⟩
    · exact ih x hx

/-- the state of the law's loop: `j` items are taken -/
structure LInv (G hT : Heap) (s : Shared) (L Th n Lx it : Addr) (ws : List Value) (j : Nat) (s' : Shared) : Prop where
  step : Step G s s'
  ns : ∃ m, s'.heap.Ns L m ∧ m "rows" = some (.ref (n + 3)) ∧ m "things" = some (.ref Th)
  but : KeptBut [L] hT s'.heap
  iter : s'.heap.IsListIter it Lx j
  lx : s'.heap.IsList Lx ws.toArray
  rw : PlainL s'.heap (n + 3) #[.ref (n + 0), .ref (n + 1), .ref (n + 2)]
  rk : ∀ k : Nat, k < 3 → ∃ us js, PlainL s'.heap (n + k) (us : List Value).toArray ∧ us.length ≤ j ∧ PairsAt hT us js
end Mine

open PySem PySem.W PyProof.Rows
set_option Elab.async false
set_option maxRecDepth 100000
namespace Mine
open PySem.SeqAt PySem.Calls

theorem rows_new (h : Heap) : ∃ h', ((((h.push { cls := .type "list", data := .seq ([] : List Value).toArray }).push { cls := .type "list", data := .seq ([] : List Value).toArray }).push { cls := .type "list", data := .seq ([] : List Value).toArray }).push
      { cls := .type "list", data := .seq [Value.ref h.objs.size, .ref (h.objs.size + 1), .ref (h.objs.size + 1 + 1)].toArray }) = h' ∧
    PlainL h' (h.objs.size + 3) #[.ref (h.objs.size + 0), .ref (h.objs.size + 1), .ref (h.objs.size + 2)] ∧ (∀ k : Nat, k < 3 → PlainL h' (h.objs.size + k) ([] : List Value).toArray) ∧ ∀ b o, h.get? b = some o → h'.get? b = some o := by
  refine ⟨_, rfl, ?_, ?_, fun b o e => Heap.get?_push_of_some _ (Heap.get?_push_of_some _ (Heap.get?_push_of_some _ (Heap.get?_push_of_some _ e)))⟩
  · have := plain_new (((h.push { cls := .type "list", data := .seq ([] : List Value).toArray }).push { cls := .type "list", data := .seq ([] : List Value).toArray }).push { cls := .type "list", data := .seq ([] : List Value).toArray }) [Value.ref (h.objs.size + 0), .ref (h.objs.size + 1), .ref (h.objs.size + 2)]
    rw [Heap.size_push, Heap.size_push, Heap.size_push] at this
    exact this
  · intro k hk
    match k, hk with
    | 0, _ =>
      have := plain_new h []
      exact this.keeps fun b o e => Heap.get?_push_of_some _ (Heap.get?_push_of_some _ (Heap.get?_push_of_some _ e))
    | 1, _ =>
      have := plain_new (h.push { cls := .type "list", data := .seq ([] : List Value).toArray }) []
      rw [Heap.size_push] at this
      exact this.keeps fun b o e => Heap.get?_push_of_some _ (Heap.get?_push_of_some _ e)
    | 2, _ =>
      have := plain_new ((h.push { cls := .type "list", data := .seq ([] : List Value).toArray }).push { cls := .type "list", data := .seq ([] : List Value).toArray }) []
      rw [Heap.size_push, Heap.size_push] at this
      exact this.keeps fun b o e => Heap.get?_push_of_some _ e

theorem three_at (n : Addr) {k : Nat} (hk : k < 3) : (#[Value.ref (n + 0), .ref (n + 1), .ref (n + 2)] : Array Value)[((k : Nat) : Int).toNat]? = some (.ref (n + k)) := by
  match k, hk with
  | 0, _ => rfl
  | 1, _ => rfl
  | 2, _ => rfl
theorem three_get (n : Addr) {i : Nat} {v : Value} (h : [Value.ref (n + 0), .ref (n + 1), .ref (n + 2)][i]? = some v) : ∃ k : Nat, k < 3 ∧ v = .ref (n + k) := by
  match i, h with
  | 0, h => cases h; exact ⟨0, by decide, rfl⟩
  | 1, h => cases h; exact ⟨1, by decide, rfl⟩
  | 2, h => cases h; exact ⟨2, by decide, rfl⟩
  | i + 3, h => simp at h
theorem no_pylong (z : Int) : ¬(Builtin.divisionGoesByPylong z 3) = true := by
  intro h
  unfold Builtin.divisionGoesByPylong at h
  rw [Bool.and_eq_true] at h
  exact absurd h.1 (by decide)
theorem but_ext {X : List Addr} {h h₁ h₂ : Heap} {a : Addr} (x : KeptBut X h h₁) (na : h.get? a = none) (y : Heap.ExtBut a h₁ h₂) : KeptBut X h h₂ := fun b o hb e => by
  obtain ⟨o', e', lk⟩ := x b o hb e
  exact ⟨o', y b o' (fun q => by rw [q, na] at e; cases e) e', lk⟩
theorem fmod_nat (z : Int) {b : Nat} (hb : 0 < b) : ∃ k : Nat, k < b ∧ z.fmod b = (k : Int) := by
  have h0 := Int.fmod_nonneg_of_pos z (show (0 : Int) < b by omega)
  have h1 := Int.fmod_lt_of_pos z (show (0 : Int) < b by omega)
  exact ⟨(z.fmod b).toNat, by omega, by omega⟩

set_option maxHeartbeats 1000000 in
theorem law_body {prog : Program} {w : World} {A : Around} {G : Heap} {mg mb : Str → Option Value} {l : List Env} {s : Shared} {h₁ : Heap} {tk : Nat} {f : Addr} {cd : Value} {L a : Addr} {m : Str → Option Value} {vs : List Value} {ns : List Int}
    (gd : Gd G mg mb) (R : Rdy A G l s.heap 4 66) (k : Kept s.heap h₁) (g₁ : G.StaysIn h₁) (hn : h₁.Ns L m) (nL : s.heap.get? L = none) (hm : m "script" = some (.ref a)) (hl : h₁.IsList a vs.toArray) (hI : IntsAre vs ns) (hz : vs.length ≤ 63) :
    wpAny (model prog w) (A.deeper (envOf (nameOf (stm 11)) (scopeOf (stm 11)) L f cd)) (execs (bodyOf (stm 11)) (envOf (nameOf (stm 11)) (scopeOf (stm 11)) L f cd)) (fun fl s' => fl = .ret (.bool true) ∧ Step G s s') (fun _ _ => False) { s with heap := h₁, toks := tk } := by
  have gS := R.below.stays
  have rdy : ∀ {h' : Heap} {m' : Str → Option Value}, Kept s.heap h' → G.StaysIn h' → h'.Ns L m' → Rdy (A.deeper (envOf (nameOf (stm 11)) (scopeOf (stm 11)) L f cd)) G (envOf (nameOf (stm 11)) (scopeOf (stm 11)) L f cd :: l) h' 3 63 := fun k g hn => R.deeper k g nL hn rfl rfl
  have hh : (A.deeper (envOf (nameOf (stm 11)) (scopeOf (stm 11)) L f cd)).handled = none := R.handled
  have hu : (A.deeper (envOf (nameOf (stm 11)) (scopeOf (stm 11)) L f cd)).units + 50 < 9900 := by have := R.units; show A.units + 3 + 50 < 9900; omega
  generalize A.deeper (envOf (nameOf (stm 11)) (scopeOf (stm 11)) L f cd) = A₁ at rdy hh hu ⊢
  have gL : G.get? L = none := stays_none gS nL
  have S₁ : Step G s { s with heap := h₁, toks := tk } := .of g₁ k
  -- things, rows
  refine wpAny_execs_cons (assign_locals0 gL hh rfl rfl rfl ?_ rfl rfl rfl rfl)
  refine own_call0 gd gd.fn7 rfl g₁ rfl rfl rfl fun v₁ hv₁ => ?_
  refine wpAny_mono (things_call gd ((rdy k g₁ hn).less (by omega) (by omega)) hv₁) (fun r sT hT => ?_) fun _ _ e => e.elim
  obtain ⟨ST, Th, hs, rfl, nTh, pTh, pairs⟩ := hT
  have pairs : PairsAt sT.heap hs ten := pairs
  have ST' := S₁.trans ST
  have nsT := k_ns ST.kept hn
  have hlT := k_list ST.kept hl
  obtain ⟨h₄, e₄, pRW, pRK, k4⟩ := rows_new sT.heap
  have nR : ∀ k : Nat, sT.heap.get? (sT.heap.objs.size + k) = none := fun k => Heap.get?_none_of_le (Nat.le_add_right _ _)
  refine List_ (args_cons (List_ (args_nil (wpAny_newObj_type ?_ (by size_fits)))))
  refine args_cons (List_ (args_nil (wpAny_newObj_type ?_ (by size_fits))))
  refine args_cons (List_ (args_nil (wpAny_newObj_type ?_ (by size_fits))))
  refine args_nil (wpAny_newObj_type ?_ (by size_fits))
  simp only [Heap.size_push]
  rw [e₄]
  clear e₄
  generalize sT.heap.objs.size = n at nR pRW pRK ⊢
  show ∃ m, h₄.Ns L m ∧ G.StaysIn h₄ ∧ ∀ h' tk, h'.Ns L (upd (upd m "rows" (.ref (n + 3))) "things" (.ref Th)) → KeptBut [L] h₄ h' → G.StaysIn h' → wpAny _ _ (execs _ _) _ _ { sT with heap := h', toks := tk }
  refine ⟨m, nsT.keeps k4, stays_keeps ST.ground k4, fun h₅ tk₅ hn₅ kb₅ g₅ => ?_⟩
  have M₅ : Mild h₄ h₅ := mild_but (nsT.keeps k4) kb₅
  have pRW₅ := M₅.plain pRW
  have pRK₅ := fun k hk => M₅.plain (pRK k hk)
  have hl₅ := M₅.list (k_list (.of_keeps k4) hlT)
  have but₅ : KeptBut [L] sT.heap h₅ := (Kept.of_keeps k4).but.trans kb₅
  have hmm : upd (upd m "rows" (.ref (n + 3))) "things" (.ref Th) "script" = some (.ref a) := by rw [upd_ne _ _ (by decide), upd_ne _ _ (by decide)]; exact hm
  have S₅ : Step G s { sT with heap := h₅, toks := tk₅ } := ST'.set g₅ (ST'.kept.thenBut but₅ (fun b hb => (List.mem_singleton.mp hb) ▸ nL))
  clear M₅ kb₅ pRW pRK hlT k4
  -- the loop's list
  refine wpAny_execs_cons (wpAny_For ?_)
  refine wpAny_mono (Q := fun r s' => ∃ h' tk Lx ws, s' = { sT with heap := h', toks := tk } ∧ (∀ b o, h₅.get? b = some o → h'.get? b = some o) ∧ r = .ref Lx ∧ h'.IsList Lx (ws : List Value).toArray ∧ ws.length ≤ 16 ∧ AllInt ws ∧ h₅.get? Lx = none) (E := fun _ _ => False) ?src ?cont fun _ _ e => e
  case src =>
    refine wpAny_BinOp (wpAny_Subscript_list_slice (name_local rfl rfl hn₅ hmm (evalPart_none_step (evalPart_some_step (wpAny_Constant_int ?_)))))
    refine ⟨a, _, none, some 8, rfl, hl₅, by rw [List.size_toArray]; show _ ≤ 16777216; omega, .none, .int _ _, ?_⟩
    rw [show slicePick vs.toArray none (some 8) none = (vs.take 8).toArray from slicePick_upto' vs.toArray 8]
    dsimp only
    have hlT : ((h₅.push { cls := .type "slice", data := .fields #[Value.none, Value.int 8 tk₅, .none] }).push { cls := .type "list", data := .seq (List.take 8 vs).toArray }).IsList (h₅.objs.size + 1) (List.take 8 vs).toArray := by
      refine ⟨{ cls := .type "list", data := .seq (List.take 8 vs).toArray }, ?_, rfl, _, rfl⟩
      have := Heap.get?_push_size (h := h₅.push { cls := .type "slice", data := .fields #[Value.none, Value.int 8 tk₅, .none] }) (o := { cls := .type "list", data := .seq (List.take 8 vs).toArray }) rfl
      rwa [Heap.size_push] at this
    have k56 : ∀ b o, h₅.get? b = some o → ((h₅.push { cls := .type "slice", data := .fields #[Value.none, Value.int 8 tk₅, .none] }).push { cls := .type "list", data := .seq (List.take 8 vs).toArray }).get? b = some o := fun b o e => Heap.get?_push_of_some _ (Heap.get?_push_of_some _ e)
    generalize (h₅.push { cls := .type "slice", data := .fields #[Value.none, Value.int 8 tk₅, .none] }).push { cls := .type "list", data := .seq (List.take 8 vs).toArray } = h₆ at hlT k56 ⊢
    refine List_ ?_
    refine args_cons (wpAny_Constant_int ?_)
    refine args_cons (wpAny_Constant_int ?_)
    refine args_cons (wpAny_Constant_int ?_)
    refine args_cons (wpAny_Constant_int ?_)
    refine args_cons (wpAny_Constant_int ?_)
    refine args_cons (wpAny_Constant_int ?_)
    refine args_cons (wpAny_Constant_int ?_)
    refine args_cons (wpAny_Constant_int ?_)
    refine args_nil (wpAny_newObj_type ?_ (by size_fits))
    dsimp only
    refine add_two (k_list (.push _ _) hlT) (plain_new _ _).isList (by rw [List.length_take]; show min 8 vs.length + 8 ≤ 10000; omega) fun pZ => ?_
    refine ⟨_, _, _, _, rfl, fun b o e => Heap.get?_push_of_some _ (Heap.get?_push_of_some _ (k56 b o e)), rfl, pZ.isList, ?_, ?_, ?_⟩
    · rw [List.length_append, List.length_take]; show min 8 vs.length + 8 ≤ 16; omega
    · intro x hx
      rcases List.mem_append.mp hx with hx | hx
      · exact allInt_of hI x (List.mem_of_mem_take hx)
      · simp only [List.mem_cons, List.not_mem_nil, or_false] at hx
        rcases hx with rfl | rfl | rfl | rfl | rfl | rfl | rfl | rfl <;> exact ⟨_, _, rfl⟩
    · exact ((Kept.of_keeps k56).trans (.push _ _)).isNone (none_size _)
  case cont =>
  rintro r s₆ ⟨h₆, tk₆, Lx, ws, rfl, k6, rfl, hlx, lws, iws, nLx⟩
  have hLR : ∀ k : Nat, k < 3 → n + k ≠ Lx := fun k hk q => by obtain ⟨o, _, e, _⟩ := pRK₅ k hk; rw [q, nLx] at e; cases e
  have S₆ : Step G s { sT with heap := h₆, toks := tk₆ } := S₅.set (tk := tk₆) (stays_keeps g₅ k6) (S₅.kept.trans (.of_keeps k6))
  have nIT : sT.heap.get? h₆.objs.size = none := by
    cases e : sT.heap.get? h₆.objs.size with
    | none => rfl
    | some o =>
      by_cases q : h₆.objs.size = L
      · have := (hn₅.keeps k6).lt
        have q' : (envOf (nameOf (stm 11)) (scopeOf (stm 11)) L f cd).locals = L := rfl
        rw [q] at this; exact absurd this (Nat.lt_irrefl _)
      · obtain ⟨o', e', _⟩ := but₅ _ o (fun hm => q (List.mem_singleton.mp hm)) e
        have := k6 _ _ e'
        rw [none_size] at this; cases this
  have nI : s.heap.get? h₆.objs.size = none := S₆.kept.isNone (none_size _)
  refine wpAny_pyIter_list hlx ?_
  dsimp only
  refine codeAny_forLoop (fun n' s' => ∃ j, n' + j = ws.length ∧ LInv G sT.heap s L Th n Lx h₆.objs.size ws j s') (fun n' s' hI => ?_) ws.length ⟨0, by omega, ?_⟩
  · obtain ⟨j, hj, I⟩ := hI
    obtain ⟨m', hm', hrows, hthings⟩ := I.ns
    cases hx : ws[j]? with
    | none =>
      refine wpAny_pyNext_list_end hh I.iter I.lx (by simpa using hx) fun h₇ eb => ?_
      refine wpAny_execs_nil ?_
      show wpAny _ _ (execs _ _) _ _ ({ s' with heap := h₇, toks := s'.toks } : Shared)
      have hn₇ := hm'.extBut eb (ne_ns_iter hm' I.iter).symm
      have S₇ : Step G s { s' with heap := h₇, toks := s'.toks } := I.step.set (stays_extBut I.step.ground (stays_none gS nI) eb) (I.step.kept.extBut nI eb)
      have but₇ := but_ext I.but nIT eb
      have rw₇ := I.rw.extBut eb (ne_iter_list I.iter I.rw.isList)
      have rk₇ : ∀ k : Nat, k < 3 → ∃ us js, PlainL h₇ (n + k) (us : List Value).toArray ∧ us.length ≤ 900 ∧ PairsAt h₇ us js := fun k hk => by
        obtain ⟨us, js, p, q, r⟩ := I.rk k hk
        exact ⟨us, js, p.extBut eb (ne_iter_list I.iter p.isList), by omega, off_pairs ⟨⟨m, .ref a, nsT, hm⟩, but₇⟩ r⟩
      generalize hs₇ : ({ s' with heap := h₇, toks := s'.toks } : Shared) = s₇ at S₇ ⊢
      obtain rfl : s₇.heap = h₇ := by rw [← hs₇]
      clear hs₇ I eb
      -- the rows are left well
      refine wpAny_execs_cons (wpAny_If (wpAny_isTrue_Compare1 ?_))
      refine comp_value (G := G) (cl := []) hh rfl (by decide) rfl (by decide) ?_
      refine name_local rfl rfl hn₇ hrows ⟨[Value.ref (n + 0), .ref (n + 1), .ref (n + 2)].length, _, fun _ => false, fun _ _ => True, .list rfl rw₇.isList, (show 3 ≤ 100000 by decide), S₇.ground, .inl ⟨_, _, rfl⟩, ?_, ?_⟩
      · intro D i v s₈ m₈ E' nD hi hv S₈ hm₈
        obtain ⟨k, hk, rfl⟩ := three_get n hv
        refine wpAny_assign_Name (store_local rfl rfl hm₈ fun h₉ hm₉ sb₉ => ?_)
        have K₉ : Kept s₇.heap h₉ := S₈.kept.sameBut nD sb₉
        have g₉ := stays_extBut S₈.ground (stays_none S₇.ground nD) sb₉.extBut
        obtain ⟨us, js, p, lu, q⟩ := rk₇ k hk
        refine wpAny_tests_one (wpAny_isTrue_Not (wpAny_isTrue_value ?_))
        refine own_call gd gd.fn9 rfl g₉ rfl rfl rfl fun v₁ hv₁ => args_cons (name_local rfl rfl hm₉ (upd_same ..) (args_nil ⟨g₉, ?_⟩))
        refine wpAny_mono (left_call gd ((rdy (S₇.kept.trans K₉) g₉ (k_ns K₉ hn₇)).less (by omega) (by omega)) (k_list K₉ p.isList) (k_pairs K₉ q) (by omega) hv₁) (fun r s₁₀ h₁₀ => ?_) fun _ _ e => e.elim
        obtain ⟨⟨h₁₀, tk₁₀, rfl, g₁₀, k₁₀⟩, rfl⟩ := h₁₀
        refine wpAny_truthy_bool ⟨rfl, ?_⟩
        simp only [Bool.not_true, Bool.false_eq_true, if_false]
        exact After.of_but g₁₀ (k_ns k₁₀ hm₉) ((KeptBut.of_extBut (List.mem_singleton.mpr rfl) sb₉.extBut).trans k₁₀.but)
      intro D s₈ ys nD S₈ pD hpd
      have e0 : (List.range [Value.ref (n + 0), .ref (n + 1), .ref (n + 2)].length).filter (fun _ => false) = [] := rfl
      rw [e0] at hpd
      cases hpd
      refine List_ (args_nil (wpAny_newObj_type ?_ (by size_fits)))
      refine empty_ne (k_list (.push _ _) pD.isList) (plain_new _ []).isList (by omega) (wpAny_truthy_bool ?_)
      simp only [List.isEmpty_nil, Bool.not_true, Bool.false_eq_true, if_false]
      refine wpAny_execs_nil ?_
      have S₉ : Step G s₇ { s₈ with heap := s₈.heap.push { cls := .type "list", data := .seq ([] : List Value).toArray } } := S₈.trans (.push S₈.ground)
      generalize ({ s₈ with heap := s₈.heap.push { cls := .type "list", data := .seq ([] : List Value).toArray } } : Shared) = s₉ at S₉ ⊢
      clear S₈ pD nD
      obtain ⟨u0, j0, p0, l0, q0⟩ := rk₇ 0 (by decide)
      obtain ⟨u1, j1, p1, l1, q1⟩ := rk₇ 1 (by decide)
      obtain ⟨u2, j2, p2, l2, q2⟩ := rk₇ 2 (by decide)
      have met : ∀ {s₁₀ : Shared} {a b : Addr} {us vs : List Value} {is js : List Nat} {v : Value}, Step G s₇ s₁₀ → PlainL s₇.heap a us.toArray → us.length ≤ 900 → PairsAt s₇.heap us is → PlainL s₇.heap b vs.toArray → vs.length ≤ 900 → PairsAt s₇.heap vs js → mg (nameOf (stm 10)) = some v →
          wpAny (model prog w) A₁ (call v [.ref a, .ref b]) (fun r s' => Step G s₁₀ s' ∧ r = .bool true) (fun _ _ => False) s₁₀ := fun S pa la qa pb lb qb hv =>
        met_call gd (rdy (S₇.kept.trans S.kept) S.ground (k_ns S.kept hn₇)) (k_list S.kept pa.isList) (k_list S.kept pb.isList) (k_pairs S.kept qa) (k_pairs S.kept qb) la lb hv
      refine wpAny_execs_cons (wpAny_Return_some ?_)
      have row : ∀ {s₁₀ : Shared} {Q : Value → Shared → Prop} (k : Nat) {kp : Nat} {np cp sp : Pos}, k < 3 → Step G s₇ s₁₀ → (∀ s₁₁, Step G s₁₀ s₁₁ → Q (.ref (n + k)) s₁₁) →
          wpAny (model prog w) A₁ (eval (.Subscript (.Name "rows" np) (.Constant (.int (k : Nat)) kp cp) sp) (envOf (nameOf (stm 11)) (scopeOf (stm 11)) L f cd)) Q (fun _ _ => False) s₁₀ := by
        intro s₁₀ Q k kp np cp sp hk S hQ
        refine sub_list (name_local rfl rfl (k_ns S.kept hn₇) hrows (wpAny_Constant_int ⟨n + 3, _, (k : Int), _, .ref (n + k), rfl, rfl, k_list S.kept rw₇.isList, by omega, ?_, three_at n hk, hQ _ (.tok S.ground)⟩))
        exact Int.lt_of_lt_of_le (show (k : Int) < 3 by omega) (by decide)
      have T0 := S₉
      refine BoolOp_and ?_
      refine own_call gd gd.fn10 rfl T0.ground rfl rfl rfl fun v₁ hv₁ => args_cons (row 0 (by decide) T0 fun sa0 Sa0 => args_cons (row 1 (by decide) (T0.trans Sa0) fun sb0 Sb0 => args_nil ⟨Sb0.ground, ?_⟩))
      refine wpAny_mono (met ((T0.trans Sa0).trans Sb0) p0 l0 q0 p1 l1 q1 hv₁) (fun r sc0 hc0 => ?_) fun _ _ e => e.elim
      obtain ⟨Sc0, rfl⟩ := hc0
      have T1 := ((T0.trans Sa0).trans Sb0).trans Sc0
      refine wpAny_truthy_bool ?_
      simp only [if_true]
      refine BoolOp_and ?_
      refine own_call gd gd.fn10 rfl T1.ground rfl rfl rfl fun v₁ hv₁ => args_cons (row 1 (by decide) T1 fun sa1 Sa1 => args_cons (row 2 (by decide) (T1.trans Sa1) fun sb1 Sb1 => args_nil ⟨Sb1.ground, ?_⟩))
      refine wpAny_mono (met ((T1.trans Sa1).trans Sb1) p1 l1 q1 p2 l2 q2 hv₁) (fun r sc1 hc1 => ?_) fun _ _ e => e.elim
      obtain ⟨Sc1, rfl⟩ := hc1
      have T2 := ((T1.trans Sa1).trans Sb1).trans Sc1
      refine wpAny_truthy_bool ?_
      simp only [if_true]
      refine BoolOp_one ?_
      refine own_call gd gd.fn10 rfl T2.ground rfl rfl rfl fun v₁ hv₁ => args_cons (row 2 (by decide) T2 fun sa2 Sa2 => args_cons (row 0 (by decide) (T2.trans Sa2) fun sb2 Sb2 => args_nil ⟨Sb2.ground, ?_⟩))
      refine wpAny_mono (met ((T2.trans Sa2).trans Sb2) p2 l2 q2 p0 l0 q0 hv₁) (fun r sc2 hc2 => ?_) fun _ _ e => e.elim
      obtain ⟨Sc2, rfl⟩ := hc2
      have T3 := ((T2.trans Sa2).trans Sb2).trans Sc2
      exact ⟨rfl, S₇.trans T3⟩
    | some x =>
      have hjl : j < ws.length := (List.getElem?_eq_some_iff.mp hx).1
      obtain ⟨z, t, rfl⟩ := iws x (List.mem_of_getElem? hx)
      refine wpAny_pyNext_list_item I.iter I.lx (by simpa using hx) fun h₇ hit₇ sb₇ => ?_
      have hn₇ := hm'.sameBut sb₇ (ne_ns_iter hm' I.iter).symm
      have k₇ := I.step.kept.sameBut nI sb₇
      have g₇ := stays_extBut I.step.ground (stays_none gS nI) sb₇.extBut
      have but₇ := but_ext I.but nIT sb₇.extBut
      have rw₇ := I.rw.extBut sb₇.extBut (ne_iter_list I.iter I.rw.isList)
      have lx₇ : h₇.IsList Lx ws.toArray := I.lx.extBut sb₇.extBut (ne_iter_list I.iter I.lx)
      have rk₇ : ∀ k : Nat, k < 3 → ∃ us js, PlainL h₇ (n + k) (us : List Value).toArray ∧ us.length ≤ j ∧ PairsAt sT.heap us js := fun k hk => by
        obtain ⟨us, js, p, q, r⟩ := I.rk k hk
        exact ⟨us, js, p.extBut sb₇.extBut (ne_iter_list I.iter p.isList), q, r⟩
      refine wpAny_assign_Name (store_local rfl rfl hn₇ fun h₈ hn₈ sb₈ => ?_)
      have M₈ : Mild h₇ h₈ := mild_ns hn₇ sb₈
      have k₈ := k₇.sameBut nL sb₈
      have g₈ := stays_extBut g₇ gL sb₈.extBut
      have but₈ : KeptBut [L] sT.heap h₈ := but₇.trans (.of_extBut (List.mem_singleton.mpr rfl) sb₈.extBut)
      have rw₈ := M₈.plain rw₇
      have lx₈ := M₈.list lx₇
      have hit₈ := hit₇.extBut sb₈.extBut (ne_ns_iter hn₇ hit₇)
      have pTh₈ := (mild_but nsT but₈).plain pTh
      have hrows' : upd m' "x" (.int z t) "rows" = some (.ref (n + 3)) := (upd_ne m' _ (by decide)).trans hrows
      have hthings' : upd m' "x" (.int z t) "things" = some (.ref Th) := (upd_ne m' _ (by decide)).trans hthings
      obtain ⟨k, hk3, ek⟩ := fmod_nat z (b := 3) (by decide)
      obtain ⟨p, hp10, ep⟩ := fmod_nat (z.fdiv 3) (b := 10) (by decide)
      obtain ⟨us, js, pk, lk, qk⟩ := rk₇ k hk3
      have pk₈ := M₈.plain pk
      have hz10 : hs.length = 10 := pairs.length
      have hpl : p < hs.length := by omega
      obtain ⟨i, hi, pi⟩ := pairs.get (List.getElem?_eq_getElem hpl)
      refine wpAny_execs_cons (wpAny_Expr (wpAny_Call_append rfl rfl rfl rfl ?_))
      refine sub_list (name_local rfl rfl hn₈ hrows' (wpAny_BinOp (name_local rfl rfl hn₈ (upd_same ..) (wpAny_Constant_int (AutoIntOps.mod_1 (by decide) ?_)))))
      refine ⟨n + 3, _, z.fmod 3, _, .ref (n + k), rfl, rfl, rw₈.isList, by rw [show z.fmod 3 = (k : Int) from ek]; omega, by rw [show z.fmod 3 = (k : Int) from ek]; exact Int.lt_of_lt_of_le (show (k : Int) < 3 by omega) (by decide), ?_, n + k, _, rfl, pk₈, ?_⟩
      · rw [show z.fmod 3 = (k : Int) from ek]
        exact three_at n hk3
      refine sub_list (name_local rfl rfl hn₈ hthings' (wpAny_BinOp (wpAny_BinOp (name_local rfl rfl hn₈ (upd_same ..) (wpAny_Constant_int (AutoIntOps.floordiv_1 (by decide) (no_pylong z) ?_))))))
      refine wpAny_Constant_int (AutoIntOps.mod_1 (by decide) ?_)
      refine ⟨Th, _, (z.fdiv 3).fmod 10, _, hs[p], rfl, rfl, pTh₈.isList, by rw [show (z.fdiv 3).fmod 10 = (p : Int) from ep]; omega, by rw [show (z.fdiv 3).fmod 10 = (p : Int) from ep]; exact Int.lt_of_lt_of_le (show (p : Int) < 10 by omega) (by decide), ?_, ?_⟩
      · rw [show (z.fdiv 3).fmod 10 = (p : Int) from ep]
        simpa using List.getElem?_eq_getElem hpl
      refine list_append_plainL pk₈ (fun h₉ pk₉ sb₉ => ?_) (by rw [List.size_toArray]; show _ ≤ 16777216; omega)
      refine wpAny_execs_nil ?_
      have nk : s.heap.get? (n + k) = none := ST'.kept.isNone (nR k)
      refine ⟨n' - 1, by omega, j + 1, by omega, ?_⟩
      refine ⟨I.step.set (stays_extBut g₈ (stays_none gS nk) sb₉.extBut) (k₈.sameBut nk sb₉), ⟨_, hn₈.sameBut sb₉ (ne_ns_plain hn₈ pk₈).symm, hrows', hthings'⟩, but_ext but₈ (nR k) sb₉.extBut,
        hit₈.extBut sb₉.extBut (ne_iter_list hit₈ pk₈.isList).symm, lx₈.extBut sb₉.extBut (hLR k hk3).symm, rw₈.extBut sb₉.extBut (fun q => by have := Nat.add_left_cancel q; omega), fun k' hk' => ?_⟩
      by_cases q : k' = k
      · subst q
        refine ⟨us ++ [hs[p]], js ++ [i], by simpa using pk₉, by simp; omega, qk.append (.cons pi .nil)⟩
      · obtain ⟨us', js', pk', lk', qk'⟩ := rk₇ k' hk'
        exact ⟨us', js', (M₈.plain pk').extBut sb₉.extBut (fun e => q (Nat.add_left_cancel e)), by omega, qk'⟩
  · have kp : ∀ (o : Obj) b o', h₅.get? b = some o' → (h₆.push o).get? b = some o' := fun o b o' e => Heap.get?_push_of_some _ (k6 b o' e)
    refine ⟨?_, ⟨_, hn₅.keeps (kp _), by rw [upd_ne _ _ (by decide)]; exact upd_same .., upd_same ..⟩, but₅.trans (Kept.of_keeps (kp _)).but, ⟨_, Heap.get?_push_size _ rfl, rfl, rfl⟩, k_list (.push _ _) hlx, pRW₅.keeps (kp _), fun k hk => ⟨[], [], (pRK₅ k hk).keeps (kp _), Nat.le_refl _, .nil⟩⟩
    exact S₆.trans (.push S₆.ground)
end Mine

open PySem PySem.W PyProof.Rows
set_option Elab.async false
set_option maxRecDepth 100000
namespace Mine
section
variable {p : Program} {loose : List Str} {mean : ExcName → Option Value} {mg mb : Str → Option Value} {h : Heap}
theorem fn_of (T : Top p loose mean mg mb h) (hp : recsOf p = recsOf PySem.Challenge.pw_oy0006_01) {d : Stmt} {r : DefRec} (hr : r ∈ recsOf PySem.Challenge.pw_oy0006_01) (h1 : r.name = nameOf d) (h2 : r.params = paramsOf d) (h3 : r.body = bodyOf d) (h4 : r.scope = scopeOf d) : FnAt h mg d := by
  obtain ⟨a, o, pm, code, doc, e1, e2, e3, e4⟩ := T.fn r (hp ▸ hr)
  rw [h1] at e1 e3 e4
  rw [h2, h3, h4] at e3
  exact ⟨a, o, pm, code, doc, e1, e2, e3, e4⟩
/-- the names that no line of the text binds -/
def Unbound (p : Program) (loose : List Str) : Prop := ∀ x ∈ (["list", "range", "len", "str", "sum", "ValueError"] : List Str), (¬x ∈ startupNames) ∧ (¬x ∈ loose) ∧ (¬x ∈ (recsOf p).map (·.name)) ∧ (¬x ∈ (litsOf p).map (·.1)) ∧ ¬x ∈ (clssOf p loose).map (·.name)
theorem gd_of (T : Top p loose mean mg mb h) (hp : recsOf p = recsOf PySem.Challenge.pw_oy0006_01) (hf : Unbound p loose) : Gd h mg mb where
  g := T.g
  b := T.b
  nolimit := T.nolimit
  builtins := T.builtins
  fn1 := fn_of T hp (List.mem_of_getElem? (i := 0) rfl) rfl rfl rfl rfl
  fn2 := fn_of T hp (List.mem_of_getElem? (i := 1) rfl) rfl rfl rfl rfl
  fn4 := fn_of T hp (List.mem_of_getElem? (i := 2) rfl) rfl rfl rfl rfl
  fn5 := fn_of T hp (List.mem_of_getElem? (i := 3) rfl) rfl rfl rfl rfl
  fn7 := fn_of T hp (List.mem_of_getElem? (i := 4) rfl) rfl rfl rfl rfl
  fn8 := fn_of T hp (List.mem_of_getElem? (i := 5) rfl) rfl rfl rfl rfl
  fn9 := fn_of T hp (List.mem_of_getElem? (i := 6) rfl) rfl rfl rfl rfl
  fn10 := fn_of T hp (List.mem_of_getElem? (i := 7) rfl) rfl rfl rfl rfl
  free := fun x hx => let q := hf x hx; T.free x q.1 q.2.1 q.2.2.1 q.2.2.2.1 q.2.2.2.2
end

/-- the law's body, from the top on: it gives True, and all that stood before is as it was -/
theorem law_end {p : Program} {loose : List Str} {prog : Program} {w : World} {mean : ExcName → Option Value} {mg mb : Str → Option Value} {s₁ : Shared} {h₁ : Heap} {m : Str → Option Value} {a f : Addr} {cd : Value} {vs : List Value} {ns : List Int} {tk : Nat} {Q : Flow → Shared → Prop} {E : Value → Shared → Prop}
    (T : Top p loose mean mg mb s₁.heap) (hp : recsOf p = recsOf PySem.Challenge.pw_oy0006_01) (hf : Unbound p loose) (F : Fr s₁.heap s₁.heap.objs.size h₁ m) (hm : m "script" = some (.ref a)) (hl : s₁.heap.IsList a vs.toArray) (hI : IntsAre vs ns) (hz : ¬(63 : Int) < ns.length)
    (hQ : ∀ s', s'.os = s₁.os → s'.gens = s₁.gens → s₁.heap.StaysIn s'.heap → Q (.ret (.bool true)) s') :
    wpAny (model prog w) (callerA.deeper (envOf (nameOf (stm 11)) (scopeOf (stm 11)) s₁.heap.objs.size f cd)) (execs (bodyOf (stm 11)) (envOf (nameOf (stm 11)) (scopeOf (stm 11)) s₁.heap.objs.size f cd)) Q E { s₁ with heap := h₁, toks := tk } := by
  have R : Rdy callerA s₁.heap [] s₁.heap 4 66 := ⟨below_caller s₁.heap, rfl, rfl, by decide, by decide, fun L hL => nomatch hL⟩
  have hz' : vs.length ≤ 63 := by
    have : vs.length = ns.length := by
      clear hl hz
      induction hI with
      | nil => rfl
      | cons _ _ _ ih => simp [ih]
    omega
  refine wpAny_mono (law_body (gd_of T hp hf) R (.of_keeps F.keep) F.keep F.ns (none_size _) hm (k_list (.of_keeps F.keep) hl) hI hz') (fun fl s' h' => ?_) fun _ _ e => e.elim
  obtain ⟨rfl, S⟩ := h'
  exact hQ s' S.os S.gens S.ground
end Mine

set_option maxRecDepth 100000 in
set_option maxHeartbeats 8000000 in
theorem PySem.Challenge.cw_oy0006_01_holds : PySem.Challenge.rw_oy0006_01.Holds := by
  open_k0
  refine Mine.law_end (by assumption) ?hp ?hf (by assumption) ?hm (by assumption) (by assumption) (by assumption) fun s' hos hgens hst => ?_
  case hp => rfl
  case hf => unfold Mine.Unbound; decide +kernel
  case hm => rfl
  refine ⟨.inl ⟨.bool true, .bool true, [], rfl, fun _ => rfl, .bool true, ?_, fun _ => ⟨List.nodup_nil, fun _ q => nomatch q⟩⟩, hst, hos, hgens.trans (by assumption)⟩
  wrow_post

