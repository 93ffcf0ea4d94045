import JvmDerived
import JvmDerived.Pilot.@@N@@Statement
import JvmDerived.Pilot.@@N@@Code
set_option linter.unusedVariables false
set_option linter.unusedSimpArgs false
namespace Jvm.OwnW
open Sem ClassFile Op Lib Jvm.Stand Jvm.Free Jvm.LawKit Jvm.RoadKit
/-! A plain heap (objects made since the start, in order), values whose references count from the start's size; W: from here the method comes back, and Q holds of what it returns and leaves. -/
abbrev Key : Type := String × String × String
abbrev AObj : Type := (String × List (Key × Value)) ⊕ (FieldType × List Value)
abbrev AHeap : Type := List AObj
abbrev Meth : Type := MethodName × ByteArray × Nat × Option FieldType × Room
def up (n : Nat) : Value → Value
  | .ref k => .ref (n + k)
  | .retAddr a => .ref a
  | v => v
/-- a reference: null, an object of the plain heap, or one from elsewhere (written '.retAddr', which no method here makes) -/
def rfn : Value → Bool
  | .ref _ => true
  | .null => true
  | .retAddr _ => true
  | _ => false
def upS (n : Nat) : Slot → Slot
  | .val v => .val (up n v)
  | x => x
abbrev loc (n : Nat) (ls : List Slot) : Array Slot := (ls.map (upS n)).toArray
abbrev stk (n : Nat) (st : List Value) : List Value := st.map (up n)
def OR (Z : State) (n : Nat) (h : Heap) (a : Addr) : AObj → Prop
  | .inl x => Exa Z h a x.1 ∧ (∀ (i : Nat) (q : Key × Value), x.2[i]? = some q → Fld Z h a q.1.1 q.1.2.1 q.1.2.2 (up n q.2)) ∧ ∀ (i j : Nat) (q r : Key × Value), i ≠ j → x.2[i]? = some q → x.2[j]? = some r → RoadKit.slotOf Z q.1.1 q.1.2.1 q.1.2.2 ≠ RoadKit.slotOf Z r.1.1 r.1.2.1 r.1.2.2
  | .inr x => ∃ cl : Cell, Arr Z h a cl x.1 ∧ cl.slots = (x.2.map (up n)).toArray
/-- a cell of which nothing is said -/
def junk : AObj := .inr (.object "", [])
def isJ : AObj → Bool
  | .inl _ => false
  | .inr x => match x.1 with
    | .object c => c == ""
    | _ => false
def HR (Z : State) (n : Nat) (h : Heap) (H : AHeap) : Prop := h.size = n + H.length ∧ ∀ k o, H[k]? = some o → isJ o = false → OR Z n h (n + k) o
def Ctx (Z : State) (M : Meth) (p : Program) (s : State) (m : MethodId) (meth : Method) (c : Code) : Prop :=
  p.tables.exec = Jvm.exec ∧ Z.Warmed39 s.vm ∧ s.vm.findClass M.1.cls = some m.cls ∧ c.code = M.2.1 ∧ c.maxLocals = M.2.2.1 ∧ meth.sig.returnType = M.2.2.2.1 ∧ meth.locks = false ∧ meth.name = M.1.name
/-- the end's frame: the plain one, or (a String's constant may have been resolved) the wide one -/
def EndR (b : Bool) (s : State) (o : Outcome) (t : State) (L : List Loc) (k n : Nat) : Prop := match b with
  | false => FrameEnd s o t L k n
  | true => (∃ v : Option Value, o = Outcome.returned v) ∧ s.Warmed39 t.vm ∧ s.Booked t.vm t.heap.size ∧ s.sameButNew ({ t with vm := s.vm } : State) L k n
theorem EndR.of {b : Bool} {s : State} {o : Outcome} {t : State} {L : List Loc} {k n : Nat} (h : FrameEnd s o t L k n) : EndR b s o t L k n := by
  cases b
  · exact h
  · exact ⟨h.1, (h.2.1.since t.heap.size).1, (h.2.1.since t.heap.size).2, h.2.2⟩
def FinR (b : Bool) (Z : State) (n : Nat) (M : Meth) (Q : Option Value → AHeap → Prop) (p : Program) (e : Env) (below : List Frame) (s S : State) : Prop :=
  ∃ s₂ v L H', Steps p.tables e below S s₂ ∧ s₂.status = .running ∧ Ended s₂ below (.returned (v.map (up n))) ∧ Q v H' ∧ HR Z n s₂.heap H' ∧ Fr n L ∧ EndR b s (.returned (v.map (up n))) s₂ L M.2.2.2.2.cells M.2.2.2.2.slots
def WB (b : Bool) (l : Launch) (Z : State) (n : Nat) (M : Meth) (pc : Nat) (ls : List Slot) (st : List Value) (H : AHeap) (ce sl : Nat) (Q : Option Value → AHeap → Prop) : Prop :=
  ∀ (p : Program) (e : Env) (s : State) (m : MethodId) (args : Array Value) (below : List Frame) (meth : Method) (c : Code), Ctx Z M p s m meth c → ∀ (T : State) (locs : List Loc),
    Stand p l e M.2.2.2.2 s m args below meth c T locs ce sl → HR Z n T.heap H → Fr n locs → FinR b Z n M Q p e below s (T.setTop (mkF m pc (loc n ls) (stk n st)))
abbrev W (l : Launch) (Z : State) (n : Nat) (M : Meth) (pc : Nat) (ls : List Slot) (st : List Value) (H : AHeap) (ce sl : Nat) (Q : Option Value → AHeap → Prop) : Prop := WB false l Z n M pc ls st H ce sl Q
/-- the instruction at pc, its length, the pc behind -/
def D (M : Meth) (pc : Nat) (i : Instr) (len pc' : Nat) : Prop := decode M.2.1 pc = .ok (i, len) ∧ pc' = pc + len
/-- a branch: the pc behind, the target -/
def DB (M : Meth) (pc : Nat) (i : Instr) (o : Int) (pc' t : Nat) : Prop := decode M.2.1 pc = .ok (i, 3) ∧ pc' = pc + 3 ∧ 0 ≤ (pc : Int) + o ∧ ((pc : Int) + o).toNat = t

section Facts
variable {Z : State} {n : Nat} {h h' : Heap} {a b : Addr} {x : AObj} {H : AHeap} {sl k : Nat} {v : Value}
theorem up_cat (n : Nat) (v : Value) : (up n v).category = v.category := by cases v <;> rfl
theorem up_rfn (n : Nat) {v : Value} (h : rfn v = true) : (up n v).isRef = true := by cases v <;> first | rfl | (simp [rfn] at h)
theorem up_isRef (n : Nat) {v : Value} (h : v.isRef = true) : (up n v).isRef = true := by cases v <;> first | rfl | (simp [Value.isRef] at h)
theorem rfn_cat {v : Value} (h : rfn v = true) : v.category = 1 := by cases v <;> first | rfl | (simp [rfn] at h)
theorem up_default (n : Nat) (ty : FieldType) : up n (defaultValue ty) = defaultValue ty := by cases ty <;> rfl
theorem up_inj {n : Nat} {v w : Value} (hv : v.isRef = true) (hw : w.isRef = true) (e : up n v = up n w) : v = w := by
  cases v <;> cases w <;> simp_all [up, Value.isRef]
theorem OR.other (W : Wr h h' a sl v) (hne : b ≠ a) : ∀ {x : AObj}, OR Z n h b x → OR Z n h' b x
  | .inl x, o => ⟨o.1.wr W, fun i q hq => (o.2.1 i q hq).other W (Or.inl hne), o.2.2⟩
  | .inr x, ⟨cl, A, e⟩ => ⟨cl, A.other W hne, e⟩
theorem OR.ext (E : Ext h h') : ∀ {x : AObj}, OR Z n h b x → OR Z n h' b x
  | .inl x, o => ⟨o.1.ext E, fun i q hq => (o.2.1 i q hq).ext E, o.2.2⟩
  | .inr x, ⟨cl, A, e⟩ => ⟨cl, A.ext E, e⟩
theorem HR.put (hH : HR Z n h H) (W : Wr h h' (n + k) sl v) (hx : OR Z n h' (n + k) x) : HR Z n h' (H.set k x) := by
  refine ⟨by rw [W.size, List.length_set]; exact hH.1, fun j o hj hJ => ?_⟩
  rw [List.getElem?_set] at hj
  split at hj
  · rename_i e
    subst e
    split at hj
    · cases hj; exact hx
    · cases hj
  · rename_i e
    exact (hH.2 j o hj hJ).other W (fun q => e (Nat.add_left_cancel q).symm)
theorem HR.push (hH : HR Z n h H) (E : Ext h h') (hs : h'.size = h.size + 1) (hx : OR Z n h' h.size x) : HR Z n h' (H ++ [x]) := by
  refine ⟨by rw [hs, hH.1, List.length_append]; rfl, fun j o hj hJ => ?_⟩
  rw [List.getElem?_append] at hj
  split at hj
  · exact (hH.2 j o hj hJ).ext E
  · rename_i e
    have hj' := hj
    cases hq : j - H.length with
    | zero =>
      have hge : H.length ≤ j := Nat.le_of_not_lt e
      have hle : j ≤ H.length := Nat.sub_eq_zero_iff_le.mp hq
      have this : n + j = h.size := by rw [hH.1, Nat.le_antisymm hle hge]
      rw [hq] at hj
      cases hj
      rw [this]; exact hx
    | succ q => rw [hq] at hj; cases hj
theorem OR.field {C : String} {fs : List (Key × Value)} {j : Nat} {O nm d : String} {old w : Value} (o : OR Z n h a (.inl (C, fs))) (hj : fs[j]? = some ((O, nm, d), old)) (W : Wr h h' a (RoadKit.slotOf Z O nm d) (up n w)) : OR Z n h' a (.inl (C, fs.set j ((O, nm, d), w))) := by
  have key : ∀ i q, (fs.set j ((O, nm, d), w))[i]? = some q → ∃ q', fs[i]? = some q' ∧ q'.1 = q.1 ∧ (i = j → q = ((O, nm, d), w)) ∧ (i ≠ j → q' = q) := by
    intro i q hq
    rw [List.getElem?_set] at hq
    split at hq
    · rename_i e
      subst e
      split at hq
      · cases hq; exact ⟨_, hj, rfl, fun _ => rfl, fun q => absurd rfl q⟩
      · cases hq
    · rename_i e
      exact ⟨q, hq, rfl, fun q => absurd q.symm e, fun _ => rfl⟩
  obtain ⟨o1, o2, o3⟩ := o
  refine ⟨o1.wr W, fun i q hq => ?_, fun i i' q r hne hq hr => ?_⟩
  · obtain ⟨q', g1, g2, g3, g4⟩ := key i q hq
    by_cases e : i = j
    · rw [g3 e]
      subst e
      cases hj.symm.trans g1
      have o4 : Fld Z h a O nm d (up n old) := o2 i _ hj
      exact o4.same W
    · obtain rfl := g4 e
      have hne : RoadKit.slotOf Z q'.1.1 q'.1.2.1 q'.1.2.2 ≠ RoadKit.slotOf Z O nm d := o3 i j q' ((O, nm, d), old) e g1 hj
      exact (o2 i q' g1).other W (Or.inr hne)
  · obtain ⟨q', g1, g2, -⟩ := key i q hq
    obtain ⟨r', k1, k2, -⟩ := key i' r hr
    have := o3 i i' q' r' hne g1 k1
    rw [g2, k2] at this; exact this
theorem OR.elem {ty : FieldType} {vs : List Value} {i : Nat} {w : Value} (o : OR Z n h a (.inr (ty, vs))) (W : Wr h h' a i (up n w)) : OR Z n h' a (.inr (ty, vs.set i w)) := by
  obtain ⟨cl, A, e⟩ := o
  refine ⟨_, A.same W, ?_⟩
  show cl.slots.setIfInBounds i (up n w) = _
  rw [e, List.setIfInBounds_toArray, List.map_set]
end Facts

/-- a class as the sheet lays it: its words, its fields at their first values -/
def OkC (a0 : Array Value) (Z : State) (C : String) (k : Nat) (fs : List (Key × Value)) : Prop :=
  (Cond.instantiable C k).before a0 Z = true ∧ (Cond.initialized C).before a0 Z = true ∧ (∀ q ∈ fs, ∃ ty, Laid Z a0 C q.1.1 q.1.2.1 q.1.2.2 ∧ parseFieldDescriptor q.1.2.2 = some ty ∧ q.2 = defaultValue ty) ∧ fs.Pairwise (fun q r => q.1.2.1 ≠ r.1.2.1)
theorem OkC.slots {a0 : Array Value} {Z : State} {C : String} {k : Nat} {fs : List (Key × Value)} (K : OkC a0 Z C k fs) : ∀ (i j : Nat) (q r : Key × Value), i ≠ j → fs[i]? = some q → fs[j]? = some r → RoadKit.slotOf Z q.1.1 q.1.2.1 q.1.2.2 ≠ RoadKit.slotOf Z r.1.1 r.1.2.1 r.1.2.2 := by
  intro i j q r hne hq hr
  obtain ⟨t, L, p1, -⟩ := K.2.2.1 q (List.mem_of_getElem? hq)
  obtain ⟨t', L', p2, -⟩ := K.2.2.1 r (List.mem_of_getElem? hr)
  obtain ⟨hi, ei⟩ := List.getElem?_eq_some_iff.mp hq
  obtain ⟨hj, ej⟩ := List.getElem?_eq_some_iff.mp hr
  have P := List.pairwise_iff_getElem.mp K.2.2.2
  refine slot_ne L L' ?_ p1 p2
  rcases Nat.lt_or_gt_of_ne hne with g | g
  · have := P i j hi hj g; rw [ei, ej] at this; exact this
  · have := P j i hj hi g; rw [ei, ej] at this; exact Ne.symm this

section Locals
variable {n : Nat} {ls : List Slot} {i : Nat} {x : Slot} {v : Value}
theorem loc_get (hl : ls[i]? = some x) : (loc n ls)[i]? = some (upS n x) := by
  simp [loc, hl]
def one (ls : List Slot) (i : Nat) : Bool := match ls[i]? with
  | some .unset => true
  | some (.val w) => w.category == 1
  | _ => false
/-- a long may be stored at i: the two places are there, and no other long is cut in two -/
def two (ls : List Slot) (i : Nat) : Bool := match ls[i]?, ls[i + 1]? with
  | some .unset, some .unset => true
  | some .unset, some (.val w) => w.category == 1
  | some (.val u), some .unset => u.category == 1
  | some (.val u), some (.val w) => u.category == 1 && w.category == 1
  | some (.val u), some .second => u.category == 2
  | _, _ => false
theorem loc_set (n : Nat) (ls : List Slot) (i : Nat) (x : Slot) : (loc n ls).setIfInBounds i (upS n x) = loc n (ls.set i x) := by
  simp [loc, List.map_set]
theorem store_1 (ho : one ls i = true) (hv : v.category = 1) : storeLocals (loc n ls) i (up n v) = some (loc n (ls.set i (.val v))) := by
  have : ∃ o, ls[i]? = some o ∧ (o = .unset ∨ ∃ w, o = .val w ∧ w.category = 1) := by
    unfold one at ho
    split at ho
    · rename_i h; exact ⟨_, h, Or.inl rfl⟩
    · rename_i w h; exact ⟨_, h, Or.inr ⟨w, rfl, by simpa using ho⟩⟩
    · cases ho
  obtain ⟨o, h1, h2⟩ := this
  rw [XS.store1 (loc_get (n := n) h1) ?_ ((up_cat n v).trans hv)]
  · exact congrArg some (loc_set n ls i (.val v))
  · rcases h2 with rfl | ⟨w, rfl, hw⟩
    · exact Or.inl rfl
    · exact Or.inr ⟨up n w, rfl, (up_cat n w).trans hw⟩
theorem setAt_eq {l : Array Slot} {i : Nat} (x : Slot) (h : i < l.size) : setAt l i x = some (l.setIfInBounds i x) := by simp [setAt, h]
theorem store_2 {y : Int64} (ho : two ls i = true) : storeLocals (loc n ls) i (.long y) = some (loc n ((ls.set i (.val (.long y))).set (i + 1) .second)) := by
  have e2 : (loc n ls).setIfInBounds i (.val (.long y)) = loc n (ls.set i (.val (.long y))) := loc_set n ls i (.val (.long y))
  have e3 : (loc n (ls.set i (.val (.long y)))).setIfInBounds (i + 1) .second = loc n ((ls.set i (.val (.long y))).set (i + 1) .second) := loc_set n _ (i + 1) .second
  have key : ∀ a b, ls[i]? = some a → ls[i + 1]? = some b → i < (loc n ls).size ∧ i + 1 < (loc n ls).size ∧ (loc n ls)[i]? = some (upS n a) ∧ (loc n ls)[i + 1]? = some (upS n b) := by
    intro a b h1 h2
    have g1 := (List.getElem?_eq_some_iff.mp h1).1
    have g2 := (List.getElem?_eq_some_iff.mp h2).1
    exact ⟨by simpa [loc] using g1, by simpa [loc] using g2, loc_get h1, loc_get h2⟩
  unfold two at ho
  split at ho
  · rename_i h1 h2
    obtain ⟨s1, s2, g1, g2⟩ := key _ _ h1 h2
    have g3 : ((loc n ls).setIfInBounds i (.val (.long y)))[i + 1]? = some .unset := by rw [Array.getElem?_setIfInBounds_ne (by omega)]; exact g2
    simp only [storeLocals, storeSelf, g1, upS, setAt_eq _ s1, Option.bind_eq_bind, Option.bind_some, Value.category, if_true, g3]
    rw [setAt_eq _ (by simpa using s2), e2, e3]
  · rename_i w h1 h2
    obtain ⟨s1, s2, g1, g2⟩ := key _ _ h1 h2
    have g3 : ((loc n ls).setIfInBounds i (.val (.long y)))[i + 1]? = some (.val (up n w)) := by rw [Array.getElem?_setIfInBounds_ne (by omega)]; exact g2
    have hw : (up n w).category = 1 := (up_cat n w).trans (by simpa using ho)
    have hw2 : ¬ (up n w).category = 2 := by rw [hw]; decide
    simp only [storeLocals, storeSelf, g1, upS, setAt_eq _ s1, Option.bind_eq_bind, Option.bind_some, show (Value.long y).category = 2 from rfl, if_true, g3, if_neg hw2]
    rw [setAt_eq _ (by simpa using s2), e2, e3]
  · rename_i u h1 h2
    obtain ⟨s1, s2, g1, g2⟩ := key _ _ h1 h2
    have g3 : ((loc n ls).setIfInBounds i (.val (.long y)))[i + 1]? = some .unset := by rw [Array.getElem?_setIfInBounds_ne (by omega)]; exact g2
    have hu : (up n u).category = 1 := (up_cat n u).trans (by simpa using ho)
    simp only [storeLocals, storeSelf, g1, upS, setAt_eq _ s1, Option.bind_eq_bind, Option.bind_some, hu, show ((1 : Nat) = 2) = False from by simp, if_false, g3]
    simp only [Value.category, if_true]
    rw [setAt_eq _ (by simpa using s2), e2, e3]
  · rename_i u w h1 h2
    obtain ⟨s1, s2, g1, g2⟩ := key _ _ h1 h2
    simp only [Bool.and_eq_true, beq_iff_eq] at ho
    have g3 : ((loc n ls).setIfInBounds i (.val (.long y)))[i + 1]? = some (.val (up n w)) := by rw [Array.getElem?_setIfInBounds_ne (by omega)]; exact g2
    have hu : (up n u).category = 1 := (up_cat n u).trans ho.1
    have hw : (up n w).category = 1 := (up_cat n w).trans ho.2
    simp only [storeLocals, storeSelf, g1, upS, setAt_eq _ s1, Option.bind_eq_bind, Option.bind_some, hu, hw, show ((1 : Nat) = 2) = False from by simp, if_false, g3]
    simp only [Value.category, if_true]
    rw [setAt_eq _ (by simpa using s2), e2, e3]
  · rename_i u h1 h2
    obtain ⟨s1, s2, g1, g2⟩ := key _ _ h1 h2
    have hu : (up n u).category = 2 := (up_cat n u).trans (by simpa using ho)
    have s3 : i < ((loc n ls).setIfInBounds (i + 1) .unset).size := by simpa using s1
    have g3 : (((loc n ls).setIfInBounds (i + 1) .unset).setIfInBounds i (.val (.long y)))[i + 1]? = some .unset := by rw [Array.getElem?_setIfInBounds_ne (by omega)]; simp [show i + 1 < ls.length by simpa [loc] using s2]
    simp only [storeLocals, storeSelf, g1, upS, setAt_eq _ s2, setAt_eq _ s3, Option.bind_eq_bind, Option.bind_some, hu, if_true, g3]
    simp only [Value.category, if_true]
    rw [setAt_eq _ (by simpa using s2)]
    rw [← e3, ← e2]
    congr 1
    apply Array.ext_getElem?
    intro j
    simp only [Array.getElem?_setIfInBounds, Array.size_setIfInBounds]
    by_cases q : i + 1 = j
    · simp [q]
    · by_cases q2 : i = j <;> simp [q, q2]
  · cases ho
end Locals

section Rules
variable {b : Bool} {l : Launch} {Z : State} {n : Nat} {M : Meth} {pc pc' : Nat} {ls ls' : List Slot} {st st' : List Value} {H H' : AHeap} {ce sl ce' sl' : Nat} {Q : Option Value → AHeap → Prop} {a0 : Array Value}
theorem W.step (go : ∀ (p : Program) (e : Env) (s : State) (m : MethodId) (args : Array Value) (below : List Frame) (meth : Method) (c : Code), Ctx Z M p s m meth c → ∀ (T : State) (locs : List Loc), Stand p l e M.2.2.2.2 s m args below meth c T locs ce sl → HR Z n T.heap H → Fr n locs →
      ∃ T' locs', Stand p l e M.2.2.2.2 s m args below meth c T' locs' ce' sl' ∧ HR Z n T'.heap H' ∧ Fr n locs' ∧ ∀ target, Steps p.tables e below (T'.setTop (mkF m pc' (loc n ls') (stk n st'))) target → Steps p.tables e below (T.setTop (mkF m pc (loc n ls) (stk n st))) target)
    (k : WB b l Z n M pc' ls' st' H' ce' sl' Q) : WB b l Z n M pc ls st H ce sl Q := fun p e s m args below meth c C T locs X hH hF => by
  obtain ⟨T', locs', X', hH', hF', stp⟩ := go p e s m args below meth c C T locs X hH hF
  obtain ⟨s₂, v, L, H'', h1, r⟩ := k p e s m args below meth c C T' locs' X' hH' hF'
  exact ⟨s₂, v, L, H'', stp _ h1, r⟩
theorem W.pure (go : ∀ (p : Program) (e : Env) (s : State) (m : MethodId) (args : Array Value) (below : List Frame) (meth : Method) (c : Code), Ctx Z M p s m meth c → ∀ (T : State) (locs : List Loc), Stand p l e M.2.2.2.2 s m args below meth c T locs ce sl →
      ∀ target, Steps p.tables e below (T.setTop (mkF m pc' (loc n ls') (stk n st'))) target → Steps p.tables e below (T.setTop (mkF m pc (loc n ls) (stk n st))) target)
    (k : WB b l Z n M pc' ls' st' H ce sl Q) : WB b l Z n M pc ls st H ce sl Q :=
  W.step (fun p e s m args below meth c C T locs X hH hF => ⟨T, locs, X, hH, hF, go p e s m args below meth c C T locs X⟩) k
theorem W.more (h1 : ce ≤ ce') (h2 : sl ≤ sl') (k : WB b l Z n M pc ls st H ce' sl' Q) : WB b l Z n M pc ls st H ce sl Q :=
  W.step (fun p e s m args below meth c C T locs X hH hF => ⟨T, locs, X.more h1 h2, hH, hF, fun _ h => h⟩) k
theorem W.mono {Q' : Option Value → AHeap → Prop} (k : WB b l Z n M pc ls st H ce sl Q') (hq : ∀ v H', Q' v H' → Q v H') : WB b l Z n M pc ls st H ce sl Q := fun p e s m args below meth c C T locs X hH hF => by
  obtain ⟨s₂, v, L, H'', h1, h2, h3, h4, r⟩ := k p e s m args below meth c C T locs X hH hF
  exact ⟨s₂, v, L, H'', h1, h2, h3, hq _ _ h4, r⟩
theorem W.iadd {x y : Int32} (hd : D M pc .iadd 1 pc') (k : WB b l Z n M pc' ls (.int (x + y) :: st) H ce sl Q) : WB b l Z n M pc ls (.int y :: .int x :: st) H ce sl Q := by
  obtain ⟨hd, rfl⟩ := hd
  exact W.pure (fun p e s m args below meth c C T locs X target h => XS.iadd X.here C.1 rfl (hb C.2.2.2.1 hd) rfl h) k
theorem W.isub {x y : Int32} (hd : D M pc .isub 1 pc') (k : WB b l Z n M pc' ls (.int (x - y) :: st) H ce sl Q) : WB b l Z n M pc ls (.int y :: .int x :: st) H ce sl Q := by
  obtain ⟨hd, rfl⟩ := hd
  exact W.pure (fun p e s m args below meth c C T locs X target h => XS.isub X.here C.1 rfl (hb C.2.2.2.1 hd) rfl h) k
theorem W.imul {x y : Int32} (hd : D M pc .imul 1 pc') (k : WB b l Z n M pc' ls (.int (x * y) :: st) H ce sl Q) : WB b l Z n M pc ls (.int y :: .int x :: st) H ce sl Q := by
  obtain ⟨hd, rfl⟩ := hd
  exact W.pure (fun p e s m args below meth c C T locs X target h => XS.imul X.here C.1 rfl (hb C.2.2.2.1 hd) rfl h) k
theorem W.iand {x y : Int32} (hd : D M pc .iand 1 pc') (k : WB b l Z n M pc' ls (.int (x &&& y) :: st) H ce sl Q) : WB b l Z n M pc ls (.int y :: .int x :: st) H ce sl Q := by
  obtain ⟨hd, rfl⟩ := hd
  exact W.pure (fun p e s m args below meth c C T locs X target h => XS.iand X.here C.1 rfl (hb C.2.2.2.1 hd) rfl h) k
theorem W.ior {x y : Int32} (hd : D M pc .ior 1 pc') (k : WB b l Z n M pc' ls (.int (x ||| y) :: st) H ce sl Q) : WB b l Z n M pc ls (.int y :: .int x :: st) H ce sl Q := by
  obtain ⟨hd, rfl⟩ := hd
  exact W.pure (fun p e s m args below meth c C T locs X target h => XT.ior X.here C.1 rfl (hb C.2.2.2.1 hd) rfl h) k
theorem W.ixor {x y : Int32} (hd : D M pc .ixor 1 pc') (k : WB b l Z n M pc' ls (.int (x ^^^ y) :: st) H ce sl Q) : WB b l Z n M pc ls (.int y :: .int x :: st) H ce sl Q := by
  obtain ⟨hd, rfl⟩ := hd
  exact W.pure (fun p e s m args below meth c C T locs X target h => XT.ixor X.here C.1 rfl (hb C.2.2.2.1 hd) rfl h) k
theorem W.ishl {x y : Int32} (hd : D M pc .ishl 1 pc') (k : WB b l Z n M pc' ls (.int (x <<< (y &&& 31)) :: st) H ce sl Q) : WB b l Z n M pc ls (.int y :: .int x :: st) H ce sl Q := by
  obtain ⟨hd, rfl⟩ := hd
  exact W.pure (fun p e s m args below meth c C T locs X target h => XT.ishl X.here C.1 rfl (hb C.2.2.2.1 hd) rfl h) k
theorem W.ishr {x y : Int32} (hd : D M pc .ishr 1 pc') (k : WB b l Z n M pc' ls (.int (x >>> (y &&& 31)) :: st) H ce sl Q) : WB b l Z n M pc ls (.int y :: .int x :: st) H ce sl Q := by
  obtain ⟨hd, rfl⟩ := hd
  exact W.pure (fun p e s m args below meth c C T locs X target h => XT.ishr X.here C.1 rfl (hb C.2.2.2.1 hd) rfl h) k
theorem W.iushr {x y : Int32} (hd : D M pc .iushr 1 pc') (k : WB b l Z n M pc' ls (.int (XT.ushr x y) :: st) H ce sl Q) : WB b l Z n M pc ls (.int y :: .int x :: st) H ce sl Q := by
  obtain ⟨hd, rfl⟩ := hd
  exact W.pure (fun p e s m args below meth c C T locs X target h => XT.iushr X.here C.1 rfl (hb C.2.2.2.1 hd) rfl h) k
theorem W.ladd {x y : Int64} (hd : D M pc .ladd 1 pc') (k : WB b l Z n M pc' ls (.long (x + y) :: st) H ce sl Q) : WB b l Z n M pc ls (.long y :: .long x :: st) H ce sl Q := by
  obtain ⟨hd, rfl⟩ := hd
  exact W.pure (fun p e s m args below meth c C T locs X target h => XT.ladd X.here C.1 rfl (hb C.2.2.2.1 hd) rfl h) k
theorem W.lsub {x y : Int64} (hd : D M pc .lsub 1 pc') (k : WB b l Z n M pc' ls (.long (x - y) :: st) H ce sl Q) : WB b l Z n M pc ls (.long y :: .long x :: st) H ce sl Q := by
  obtain ⟨hd, rfl⟩ := hd
  exact W.pure (fun p e s m args below meth c C T locs X target h => XT.lsub X.here C.1 rfl (hb C.2.2.2.1 hd) rfl h) k
theorem W.lmul {x y : Int64} (hd : D M pc .lmul 1 pc') (k : WB b l Z n M pc' ls (.long (x * y) :: st) H ce sl Q) : WB b l Z n M pc ls (.long y :: .long x :: st) H ce sl Q := by
  obtain ⟨hd, rfl⟩ := hd
  exact W.pure (fun p e s m args below meth c C T locs X target h => XT.lmul X.here C.1 rfl (hb C.2.2.2.1 hd) rfl h) k
theorem W.land {x y : Int64} (hd : D M pc .land 1 pc') (k : WB b l Z n M pc' ls (.long (x &&& y) :: st) H ce sl Q) : WB b l Z n M pc ls (.long y :: .long x :: st) H ce sl Q := by
  obtain ⟨hd, rfl⟩ := hd
  exact W.pure (fun p e s m args below meth c C T locs X target h => XT.land X.here C.1 rfl (hb C.2.2.2.1 hd) rfl h) k
theorem W.lor {x y : Int64} (hd : D M pc .lor 1 pc') (k : WB b l Z n M pc' ls (.long (x ||| y) :: st) H ce sl Q) : WB b l Z n M pc ls (.long y :: .long x :: st) H ce sl Q := by
  obtain ⟨hd, rfl⟩ := hd
  exact W.pure (fun p e s m args below meth c C T locs X target h => XT.lor X.here C.1 rfl (hb C.2.2.2.1 hd) rfl h) k
theorem W.lxor {x y : Int64} (hd : D M pc .lxor 1 pc') (k : WB b l Z n M pc' ls (.long (x ^^^ y) :: st) H ce sl Q) : WB b l Z n M pc ls (.long y :: .long x :: st) H ce sl Q := by
  obtain ⟨hd, rfl⟩ := hd
  exact W.pure (fun p e s m args below meth c C T locs X target h => XT.lxor X.here C.1 rfl (hb C.2.2.2.1 hd) rfl h) k
theorem W.lshl {x : Int64} {y : Int32} (hd : D M pc .lshl 1 pc') (k : WB b l Z n M pc' ls (.long (x <<< (y &&& 0x3f).toInt64) :: st) H ce sl Q) : WB b l Z n M pc ls (.int y :: .long x :: st) H ce sl Q := by
  obtain ⟨hd, rfl⟩ := hd
  exact W.pure (fun p e s m args below meth c C T locs X target h => XS.lshl X.here C.1 rfl (hb C.2.2.2.1 hd) rfl h) k
theorem W.lshr {x : Int64} {y : Int32} (hd : D M pc .lshr 1 pc') (k : WB b l Z n M pc' ls (.long (x >>> (y &&& 0x3f).toInt64) :: st) H ce sl Q) : WB b l Z n M pc ls (.int y :: .long x :: st) H ce sl Q := by
  obtain ⟨hd, rfl⟩ := hd
  exact W.pure (fun p e s m args below meth c C T locs X target h => XS.lshr X.here C.1 rfl (hb C.2.2.2.1 hd) rfl h) k
theorem W.lushr {x : Int64} {y : Int32} (hd : D M pc .lushr 1 pc') (k : WB b l Z n M pc' ls (.long (XT.ushrL x y) :: st) H ce sl Q) : WB b l Z n M pc ls (.int y :: .long x :: st) H ce sl Q := by
  obtain ⟨hd, rfl⟩ := hd
  exact W.pure (fun p e s m args below meth c C T locs X target h => XT.lushr X.here C.1 rfl (hb C.2.2.2.1 hd) rfl h) k
theorem W.idiv {x y : Int32} (hd : D M pc .idiv 1 pc') (hy : y ≠ 0) (k : WB b l Z n M pc' ls (.int (x / y) :: st) H ce sl Q) : WB b l Z n M pc ls (.int y :: .int x :: st) H ce sl Q := by
  obtain ⟨hd, rfl⟩ := hd
  exact W.pure (fun p e s m args below meth c C T locs X target h => XS.idiv X.here C.1 rfl (hb C.2.2.2.1 hd) rfl hy h) k
theorem W.irem {x y : Int32} (hd : D M pc .irem 1 pc') (hy : y ≠ 0) (k : WB b l Z n M pc' ls (.int (x % y) :: st) H ce sl Q) : WB b l Z n M pc ls (.int y :: .int x :: st) H ce sl Q := by
  obtain ⟨hd, rfl⟩ := hd
  exact W.pure (fun p e s m args below meth c C T locs X target h => iremM X C.1 rfl (hb C.2.2.2.1 hd) rfl hy h) k
theorem W.ldiv {x y : Int64} (hd : D M pc .ldiv 1 pc') (hy : y ≠ 0) (k : WB b l Z n M pc' ls (.long (x / y) :: st) H ce sl Q) : WB b l Z n M pc ls (.long y :: .long x :: st) H ce sl Q := by
  obtain ⟨hd, rfl⟩ := hd
  exact W.pure (fun p e s m args below meth c C T locs X target h => XT.ldiv X.here C.1 rfl (hb C.2.2.2.1 hd) rfl hy h) k
theorem W.lrem {x y : Int64} (hd : D M pc .lrem 1 pc') (hy : y ≠ 0) (k : WB b l Z n M pc' ls (.long (x % y) :: st) H ce sl Q) : WB b l Z n M pc ls (.long y :: .long x :: st) H ce sl Q := by
  obtain ⟨hd, rfl⟩ := hd
  exact W.pure (fun p e s m args below meth c C T locs X target h => XT.lrem X.here C.1 rfl (hb C.2.2.2.1 hd) rfl hy (by rw [lrem_mod]; exact h)) k
theorem W.ineg {x : Int32} (hd : D M pc .ineg 1 pc') (k : WB b l Z n M pc' ls (.int (-x) :: st) H ce sl Q) : WB b l Z n M pc ls (.int x :: st) H ce sl Q := by
  obtain ⟨hd, rfl⟩ := hd
  exact W.pure (fun p e s m args below meth c C T locs X target h => XS.ineg X.here C.1 rfl (hb C.2.2.2.1 hd) rfl h) k
theorem W.lneg {x : Int64} (hd : D M pc .lneg 1 pc') (k : WB b l Z n M pc' ls (.long (-x) :: st) H ce sl Q) : WB b l Z n M pc ls (.long x :: st) H ce sl Q := by
  obtain ⟨hd, rfl⟩ := hd
  exact W.pure (fun p e s m args below meth c C T locs X target h => XT.lneg X.here C.1 rfl (hb C.2.2.2.1 hd) rfl h) k
theorem W.i2l {x : Int32} (hd : D M pc .i2l 1 pc') (k : WB b l Z n M pc' ls (.long (x.toInt64) :: st) H ce sl Q) : WB b l Z n M pc ls (.int x :: st) H ce sl Q := by
  obtain ⟨hd, rfl⟩ := hd
  exact W.pure (fun p e s m args below meth c C T locs X target h => XT.i2l X.here C.1 rfl (hb C.2.2.2.1 hd) rfl h) k
theorem W.l2i {x : Int64} (hd : D M pc .l2i 1 pc') (k : WB b l Z n M pc' ls (.int (x.toInt32) :: st) H ce sl Q) : WB b l Z n M pc ls (.long x :: st) H ce sl Q := by
  obtain ⟨hd, rfl⟩ := hd
  exact W.pure (fun p e s m args below meth c C T locs X target h => XT.l2i X.here C.1 rfl (hb C.2.2.2.1 hd) rfl h) k
theorem W.i2b {x : Int32} (hd : D M pc .i2b 1 pc') (k : WB b l Z n M pc' ls (.int (x.toInt8.toInt32) :: st) H ce sl Q) : WB b l Z n M pc ls (.int x :: st) H ce sl Q := by
  obtain ⟨hd, rfl⟩ := hd
  exact W.pure (fun p e s m args below meth c C T locs X target h => XT.i2b X.here C.1 rfl (hb C.2.2.2.1 hd) rfl h) k
theorem W.i2s {x : Int32} (hd : D M pc .i2s 1 pc') (k : WB b l Z n M pc' ls (.int (x.toInt16.toInt32) :: st) H ce sl Q) : WB b l Z n M pc ls (.int x :: st) H ce sl Q := by
  obtain ⟨hd, rfl⟩ := hd
  exact W.pure (fun p e s m args below meth c C T locs X target h => XT.i2s X.here C.1 rfl (hb C.2.2.2.1 hd) rfl h) k
theorem W.lcmp {x y : Int64} (hd : D M pc .lcmp 1 pc') (k : WB b l Z n M pc' ls (.int (XT.cmpL x y) :: st) H ce sl Q) : WB b l Z n M pc ls (.long y :: .long x :: st) H ce sl Q := by
  obtain ⟨hd, rfl⟩ := hd
  exact W.pure (fun p e s m args below meth c C T locs X target h => XT.lcmp X.here C.1 rfl (hb C.2.2.2.1 hd) rfl h) k
theorem W.iconst {i : Int} (v : Int32) (hd : D M pc (.iconst i) 1 pc') (hv : Int32.ofInt i = v) (k : WB b l Z n M pc' ls (.int v :: st) H ce sl Q) : WB b l Z n M pc ls st H ce sl Q := by
  obtain ⟨hd, rfl⟩ := hd
  exact W.pure (fun p e s m args below meth c C T locs X target h => XT.iconstV X.here C.1 rfl v (hb C.2.2.2.1 hd) hv h) k
theorem W.bipush {i : Int} (v : Int32) (hd : D M pc (.bipush i) 2 pc') (hv : (Int8.ofInt i).toInt32 = v) (k : WB b l Z n M pc' ls (.int v :: st) H ce sl Q) : WB b l Z n M pc ls st H ce sl Q := by
  obtain ⟨hd, rfl⟩ := hd
  exact W.pure (fun p e s m args below meth c C T locs X target h => XT.bipushV X.here C.1 rfl v (hb C.2.2.2.1 hd) hv h) k
theorem W.sipush {i : Int} (v : Int32) (hd : D M pc (.sipush i) 3 pc') (hv : (Int16.ofInt i).toInt32 = v) (k : WB b l Z n M pc' ls (.int v :: st) H ce sl Q) : WB b l Z n M pc ls st H ce sl Q := by
  obtain ⟨hd, rfl⟩ := hd
  exact W.pure (fun p e s m args below meth c C T locs X target h => XT.sipushV X.here C.1 rfl v (hb C.2.2.2.1 hd) hv h) k
theorem W.lconst {i : Fin 2} (v : Int64) (hd : D M pc (.lconst i) 1 pc') (hv : Int64.ofNat i = v) (k : WB b l Z n M pc' ls (.long v :: st) H ce sl Q) : WB b l Z n M pc ls st H ce sl Q := by
  obtain ⟨hd, rfl⟩ := hd
  exact W.pure (fun p e s m args below meth c C T locs X target h => XT.lconstV X.here C.1 rfl v (hb C.2.2.2.1 hd) hv h) k
theorem W.aconst  (hd : D M pc .aconst_null 1 pc') (k : WB b l Z n M pc' ls (.null :: st) H ce sl Q) : WB b l Z n M pc ls st H ce sl Q := by
  obtain ⟨hd, rfl⟩ := hd
  exact W.pure (fun p e s m args below meth c C T locs X target h => XS.aconstNull X.here C.1 rfl (hb C.2.2.2.1 hd) h) k
theorem W.ldc {i : Nat} {v : Int32} (hd : D M pc (.ldc i) 2 pc') (w : (Cond.constant M.1.cls i v).before a0 Z = true) (k : WB b l Z n M pc' ls (.int v :: st) H ce sl Q) : WB b l Z n M pc ls st H ce sl Q := by
  obtain ⟨hd, rfl⟩ := hd
  exact W.pure (fun p e s m args below meth c C T locs X target h => X.ldcI C.1 C.2.2.1 (mvT C.2.1 w) rfl (hb C.2.2.2.1 hd) h) k
theorem W.ldc2 {i : Nat} {v : Int64} (hd : D M pc (.ldc2_w i) 3 pc') (w : (Cond.constantLong M.1.cls i v).before a0 Z = true) (k : WB b l Z n M pc' ls (.long v :: st) H ce sl Q) : WB b l Z n M pc ls st H ce sl Q := by
  obtain ⟨hd, rfl⟩ := hd
  exact W.pure (fun p e s m args below meth c C T locs X target h => X.ldc2J C.1 C.2.2.1 (mvT C.2.1 w) rfl (hb C.2.2.2.1 hd) h) k
theorem W.iloadN {i : Fin 4} {v : Int32} (hd : D M pc (.iload_n i) 1 pc') (hl : ls[i.val]? = some (.val (.int v))) (k : WB b l Z n M pc' ls (.int v :: st) H ce sl Q) : WB b l Z n M pc ls st H ce sl Q := by
  obtain ⟨hd, rfl⟩ := hd
  exact W.pure (fun p e s m args below meth c C T locs X target h => XS.iloadN X.here C.1 rfl (hb C.2.2.2.1 hd) (loc_get hl) h) k
theorem W.iload {i : Nat} {v : Int32} (hd : D M pc (.iload i) 2 pc') (hl : ls[i]? = some (.val (.int v))) (k : WB b l Z n M pc' ls (.int v :: st) H ce sl Q) : WB b l Z n M pc ls st H ce sl Q := by
  obtain ⟨hd, rfl⟩ := hd
  exact W.pure (fun p e s m args below meth c C T locs X target h => XS.iload X.here C.1 rfl (hb C.2.2.2.1 hd) (loc_get hl) h) k
theorem W.lloadN {i : Fin 4} {v : Int64} (hd : D M pc (.lload_n i) 1 pc') (hl : ls[i.val]? = some (.val (.long v))) (k : WB b l Z n M pc' ls (.long v :: st) H ce sl Q) : WB b l Z n M pc ls st H ce sl Q := by
  obtain ⟨hd, rfl⟩ := hd
  exact W.pure (fun p e s m args below meth c C T locs X target h => XT.lloadN X.here C.1 rfl (hb C.2.2.2.1 hd) (loc_get hl) h) k
theorem W.lload {i : Nat} {v : Int64} (hd : D M pc (.lload i) 2 pc') (hl : ls[i]? = some (.val (.long v))) (k : WB b l Z n M pc' ls (.long v :: st) H ce sl Q) : WB b l Z n M pc ls st H ce sl Q := by
  obtain ⟨hd, rfl⟩ := hd
  exact W.pure (fun p e s m args below meth c C T locs X target h => XT.lload X.here C.1 rfl (hb C.2.2.2.1 hd) (loc_get hl) h) k
theorem W.aloadN {i : Fin 4} {v : Value} (hd : D M pc (.aload_n i) 1 pc') (hl : ls[i.val]? = some (.val v)) (hv : rfn v = true) (k : WB b l Z n M pc' ls (v :: st) H ce sl Q) : WB b l Z n M pc ls st H ce sl Q := by
  obtain ⟨hd, rfl⟩ := hd
  exact W.pure (fun p e s m args below meth c C T locs X target h => XS.aloadN X.here C.1 rfl (hb C.2.2.2.1 hd) (loc_get hl) (up_rfn n hv) h) k
theorem W.aload {i : Nat} {v : Value} (hd : D M pc (.aload i) 2 pc') (hl : ls[i]? = some (.val v)) (hv : rfn v = true) (k : WB b l Z n M pc' ls (v :: st) H ce sl Q) : WB b l Z n M pc ls st H ce sl Q := by
  obtain ⟨hd, rfl⟩ := hd
  exact W.pure (fun p e s m args below meth c C T locs X target h => XS.aload X.here C.1 rfl (hb C.2.2.2.1 hd) (loc_get hl) (up_rfn n hv) h) k
theorem W.istoreN {i : Fin 4} {v : Int32} (hd : D M pc (.istore_n i) 1 pc') (ho : one ls i.val = true) (k : WB b l Z n M pc' (ls.set i.val (.val (.int v))) st H ce sl Q) : WB b l Z n M pc ls (.int v :: st) H ce sl Q := by
  obtain ⟨hd, rfl⟩ := hd
  exact W.pure (fun p e s m args below meth c C T locs X target h => XS.istoreN X.here C.1 rfl (hb C.2.2.2.1 hd) rfl (store_1 (v := .int v) ho rfl) h) k
theorem W.istore {i : Nat} {v : Int32} (hd : D M pc (.istore i) 2 pc') (ho : one ls i = true) (k : WB b l Z n M pc' (ls.set i (.val (.int v))) st H ce sl Q) : WB b l Z n M pc ls (.int v :: st) H ce sl Q := by
  obtain ⟨hd, rfl⟩ := hd
  exact W.pure (fun p e s m args below meth c C T locs X target h => XS.istore X.here C.1 rfl (hb C.2.2.2.1 hd) rfl (store_1 (v := .int v) ho rfl) h) k
theorem W.astoreN {i : Fin 4} {v : Value} (hd : D M pc (.astore_n i) 1 pc') (ho : one ls i.val = true) (hv : rfn v = true) (k : WB b l Z n M pc' (ls.set i.val (.val v)) st H ce sl Q) : WB b l Z n M pc ls (v :: st) H ce sl Q := by
  obtain ⟨hd, rfl⟩ := hd
  exact W.pure (fun p e s m args below meth c C T locs X target h => XS.astoreN X.here C.1 rfl (hb C.2.2.2.1 hd) rfl (up_rfn n hv) (store_1 ho (rfn_cat hv)) h) k
theorem W.astore {i : Nat} {v : Value} (hd : D M pc (.astore i) 2 pc') (ho : one ls i = true) (hv : rfn v = true) (k : WB b l Z n M pc' (ls.set i (.val v)) st H ce sl Q) : WB b l Z n M pc ls (v :: st) H ce sl Q := by
  obtain ⟨hd, rfl⟩ := hd
  exact W.pure (fun p e s m args below meth c C T locs X target h => XS.astore X.here C.1 rfl (hb C.2.2.2.1 hd) rfl (up_rfn n hv) (store_1 ho (rfn_cat hv)) h) k
theorem W.lstoreN {i : Fin 4} {v : Int64} (hd : D M pc (.lstore_n i) 1 pc') (ho : two ls i.val = true) (k : WB b l Z n M pc' ((ls.set i.val (.val (.long v))).set (i.val + 1) .second) st H ce sl Q) : WB b l Z n M pc ls (.long v :: st) H ce sl Q := by
  obtain ⟨hd, rfl⟩ := hd
  exact W.pure (fun p e s m args below meth c C T locs X target h => XT.lstoreN X.here C.1 rfl (hb C.2.2.2.1 hd) rfl (store_2 ho) h) k
theorem W.lstore {i : Nat} {v : Int64} (hd : D M pc (.lstore i) 2 pc') (ho : two ls i = true) (k : WB b l Z n M pc' ((ls.set i (.val (.long v))).set (i + 1) .second) st H ce sl Q) : WB b l Z n M pc ls (.long v :: st) H ce sl Q := by
  obtain ⟨hd, rfl⟩ := hd
  exact W.pure (fun p e s m args below meth c C T locs X target h => XT.lstore X.here C.1 rfl (hb C.2.2.2.1 hd) rfl (store_2 ho) h) k
theorem W.iinc {i : Nat} {cst : Int} {x : Int32} (v : Int32) (hd : D M pc (.iinc i cst) 3 pc') (hv : Int32.ofInt cst = v) (hl : ls[i]? = some (.val (.int x))) (k : WB b l Z n M pc' (ls.set i (.val (.int (x + v)))) st H ce sl Q) : WB b l Z n M pc ls st H ce sl Q := by
  obtain ⟨hd, rfl⟩ := hd
  exact W.pure (fun p e s m args below meth c C T locs X target h => XT.iincV X.here C.1 rfl v (hb C.2.2.2.1 hd) hv (loc_get hl) (store_1 (v := .int (x + v)) (by simp [one, hl, Value.category]) rfl) h) k
theorem W.dup {v : Value} (hd : D M pc .dup 1 pc') (hv : v.category = 1) (k : WB b l Z n M pc' ls (v :: v :: st) H ce sl Q) : WB b l Z n M pc ls (v :: st) H ce sl Q := by
  obtain ⟨hd, rfl⟩ := hd
  exact W.pure (fun p e s m args below meth c C T locs X target h => XS.dup X.here C.1 rfl (hb C.2.2.2.1 hd) rfl ((up_cat n v).trans hv) h) k
theorem W.pop {v : Value} (hd : D M pc .pop 1 pc') (hv : v.category = 1) (k : WB b l Z n M pc' ls st H ce sl Q) : WB b l Z n M pc ls (v :: st) H ce sl Q := by
  obtain ⟨hd, rfl⟩ := hd
  exact W.pure (fun p e s m args below meth c C T locs X target h => XT.pop X.here C.1 rfl (hb C.2.2.2.1 hd) rfl ((up_cat n v).trans hv) h) k
theorem W.dupX1 {v w : Value} (hd : D M pc .dup_x1 1 pc') (hv : v.category = 1) (hw : w.category = 1) (k : WB b l Z n M pc' ls (v :: w :: v :: st) H ce sl Q) : WB b l Z n M pc ls (v :: w :: st) H ce sl Q := by
  obtain ⟨hd, rfl⟩ := hd
  exact W.pure (fun p e s m args below meth c C T locs X target h => XT.dupX1 X.here C.1 rfl (hb C.2.2.2.1 hd) rfl ((up_cat n v).trans hv) ((up_cat n w).trans hw) h) k
theorem W.dup2 {v w : Value} (hd : D M pc .dup2 1 pc') (hv : v.category = 1) (hw : w.category = 1) (k : WB b l Z n M pc' ls (v :: w :: v :: w :: st) H ce sl Q) : WB b l Z n M pc ls (v :: w :: st) H ce sl Q := by
  obtain ⟨hd, rfl⟩ := hd
  exact W.pure (fun p e s m args below meth c C T locs X target h => XT.dup2 X.here C.1 rfl (hb C.2.2.2.1 hd) rfl ((up_cat n v).trans hv) ((up_cat n w).trans hw) h) k
theorem W.dup2L {x : Int64} (hd : D M pc .dup2 1 pc') (k : WB b l Z n M pc' ls (.long x :: .long x :: st) H ce sl Q) : WB b l Z n M pc ls (.long x :: st) H ce sl Q := by
  obtain ⟨hd, rfl⟩ := hd
  exact W.pure (fun p e s m args below meth c C T locs X target h => XT.dup2L X.here C.1 rfl (hb C.2.2.2.1 hd) rfl h) k
theorem W.goto {o : Int} {t : Nat} (hd : DB M pc (.goto o) o pc' t) (k : WB b l Z n M t ls st H ce sl Q) : WB b l Z n M pc ls st H ce sl Q :=
  W.pure (fun p e s m args below meth c C T locs X target h => XS.goto X.here C.1 rfl rfl (hb C.2.2.2.1 hd.1) hd.2.2.1 hd.2.2.2 h) k
theorem W.if_eq {x : Int32} {o : Int} {t : Nat} (hd : DB M pc (.ifCond .eq o) o pc' t) (ky : (x = 0) → WB b l Z n M t ls st H ce sl Q) (kn : (¬ x = 0) → WB b l Z n M pc' ls st H ce sl Q) : WB b l Z n M pc ls (.int x :: st) H ce sl Q := by
  obtain ⟨h1, rfl, h3, h4⟩ := hd
  by_cases q : (x = 0)
  · exact W.pure (fun p e s m args below meth c C T locs X target h => XS.ifYes X.here C.1 rfl rfl (hb C.2.2.2.1 h1) rfl (XT.i0_eq_t q) h3 h4 h) (ky q)
  · exact W.pure (fun p e s m args below meth c C T locs X target h => XS.ifNo X.here C.1 rfl (hb C.2.2.2.1 h1) rfl (XT.i0_eq_f q) h) (kn q)
theorem W.ifl_eq {x y : Int64} {o : Int} {t : Nat} (hd : DB M pc (.ifCond .eq o) o pc' t) (ky : (x = y) → WB b l Z n M t ls st H ce sl Q) (kn : (¬ x = y) → WB b l Z n M pc' ls st H ce sl Q) : WB b l Z n M pc ls (.int (XT.cmpL x y) :: st) H ce sl Q := by
  obtain ⟨h1, rfl, h3, h4⟩ := hd
  by_cases q : (x = y)
  · exact W.pure (fun p e s m args below meth c C T locs X target h => XS.ifYes X.here C.1 rfl rfl (hb C.2.2.2.1 h1) rfl (XT.ll_eq_t q) h3 h4 h) (ky q)
  · exact W.pure (fun p e s m args below meth c C T locs X target h => XS.ifNo X.here C.1 rfl (hb C.2.2.2.1 h1) rfl (XT.ll_eq_f q) h) (kn q)
theorem W.icmp_eq {x y : Int32} {o : Int} {t : Nat} (hd : DB M pc (.if_icmp .eq o) o pc' t) (ky : (x = y) → WB b l Z n M t ls st H ce sl Q) (kn : (¬ x = y) → WB b l Z n M pc' ls st H ce sl Q) : WB b l Z n M pc ls (.int y :: .int x :: st) H ce sl Q := by
  obtain ⟨h1, rfl, h3, h4⟩ := hd
  by_cases q : (x = y)
  · exact W.pure (fun p e s m args below meth c C T locs X target h => XS.icmpYes X.here C.1 rfl rfl (hb C.2.2.2.1 h1) rfl (XT.ii_eq_t q) h3 h4 h) (ky q)
  · exact W.pure (fun p e s m args below meth c C T locs X target h => XS.icmpNo X.here C.1 rfl (hb C.2.2.2.1 h1) rfl (XT.ii_eq_f q) h) (kn q)
theorem W.if_ne {x : Int32} {o : Int} {t : Nat} (hd : DB M pc (.ifCond .ne o) o pc' t) (ky : (¬ x = 0) → WB b l Z n M t ls st H ce sl Q) (kn : (x = 0) → WB b l Z n M pc' ls st H ce sl Q) : WB b l Z n M pc ls (.int x :: st) H ce sl Q := by
  obtain ⟨h1, rfl, h3, h4⟩ := hd
  by_cases q : (x = 0)
  · exact W.pure (fun p e s m args below meth c C T locs X target h => XS.ifNo X.here C.1 rfl (hb C.2.2.2.1 h1) rfl (XT.i0_ne_f q) h) (kn q)
  · exact W.pure (fun p e s m args below meth c C T locs X target h => XS.ifYes X.here C.1 rfl rfl (hb C.2.2.2.1 h1) rfl (XT.i0_ne_t q) h3 h4 h) (ky q)
theorem W.ifl_ne {x y : Int64} {o : Int} {t : Nat} (hd : DB M pc (.ifCond .ne o) o pc' t) (ky : (¬ x = y) → WB b l Z n M t ls st H ce sl Q) (kn : (x = y) → WB b l Z n M pc' ls st H ce sl Q) : WB b l Z n M pc ls (.int (XT.cmpL x y) :: st) H ce sl Q := by
  obtain ⟨h1, rfl, h3, h4⟩ := hd
  by_cases q : (x = y)
  · exact W.pure (fun p e s m args below meth c C T locs X target h => XS.ifNo X.here C.1 rfl (hb C.2.2.2.1 h1) rfl (XT.ll_ne_f q) h) (kn q)
  · exact W.pure (fun p e s m args below meth c C T locs X target h => XS.ifYes X.here C.1 rfl rfl (hb C.2.2.2.1 h1) rfl (XT.ll_ne_t q) h3 h4 h) (ky q)
theorem W.icmp_ne {x y : Int32} {o : Int} {t : Nat} (hd : DB M pc (.if_icmp .ne o) o pc' t) (ky : (¬ x = y) → WB b l Z n M t ls st H ce sl Q) (kn : (x = y) → WB b l Z n M pc' ls st H ce sl Q) : WB b l Z n M pc ls (.int y :: .int x :: st) H ce sl Q := by
  obtain ⟨h1, rfl, h3, h4⟩ := hd
  by_cases q : (x = y)
  · exact W.pure (fun p e s m args below meth c C T locs X target h => XS.icmpNo X.here C.1 rfl (hb C.2.2.2.1 h1) rfl (XT.ii_ne_f q) h) (kn q)
  · exact W.pure (fun p e s m args below meth c C T locs X target h => XS.icmpYes X.here C.1 rfl rfl (hb C.2.2.2.1 h1) rfl (XT.ii_ne_t q) h3 h4 h) (ky q)
theorem W.if_lt {x : Int32} {o : Int} {t : Nat} (hd : DB M pc (.ifCond .lt o) o pc' t) (ky : (x < 0) → WB b l Z n M t ls st H ce sl Q) (kn : (¬ x < 0) → WB b l Z n M pc' ls st H ce sl Q) : WB b l Z n M pc ls (.int x :: st) H ce sl Q := by
  obtain ⟨h1, rfl, h3, h4⟩ := hd
  by_cases q : (x < 0)
  · exact W.pure (fun p e s m args below meth c C T locs X target h => XS.ifYes X.here C.1 rfl rfl (hb C.2.2.2.1 h1) rfl (XT.i0_lt_t q) h3 h4 h) (ky q)
  · exact W.pure (fun p e s m args below meth c C T locs X target h => XS.ifNo X.here C.1 rfl (hb C.2.2.2.1 h1) rfl (XT.i0_lt_f q) h) (kn q)
theorem W.ifl_lt {x y : Int64} {o : Int} {t : Nat} (hd : DB M pc (.ifCond .lt o) o pc' t) (ky : (x < y) → WB b l Z n M t ls st H ce sl Q) (kn : (¬ x < y) → WB b l Z n M pc' ls st H ce sl Q) : WB b l Z n M pc ls (.int (XT.cmpL x y) :: st) H ce sl Q := by
  obtain ⟨h1, rfl, h3, h4⟩ := hd
  by_cases q : (x < y)
  · exact W.pure (fun p e s m args below meth c C T locs X target h => XS.ifYes X.here C.1 rfl rfl (hb C.2.2.2.1 h1) rfl (XT.ll_lt_t q) h3 h4 h) (ky q)
  · exact W.pure (fun p e s m args below meth c C T locs X target h => XS.ifNo X.here C.1 rfl (hb C.2.2.2.1 h1) rfl (XT.ll_lt_f q) h) (kn q)
theorem W.icmp_lt {x y : Int32} {o : Int} {t : Nat} (hd : DB M pc (.if_icmp .lt o) o pc' t) (ky : (x < y) → WB b l Z n M t ls st H ce sl Q) (kn : (¬ x < y) → WB b l Z n M pc' ls st H ce sl Q) : WB b l Z n M pc ls (.int y :: .int x :: st) H ce sl Q := by
  obtain ⟨h1, rfl, h3, h4⟩ := hd
  by_cases q : (x < y)
  · exact W.pure (fun p e s m args below meth c C T locs X target h => XS.icmpYes X.here C.1 rfl rfl (hb C.2.2.2.1 h1) rfl (XT.ii_lt_t q) h3 h4 h) (ky q)
  · exact W.pure (fun p e s m args below meth c C T locs X target h => XS.icmpNo X.here C.1 rfl (hb C.2.2.2.1 h1) rfl (XT.ii_lt_f q) h) (kn q)
theorem W.if_ge {x : Int32} {o : Int} {t : Nat} (hd : DB M pc (.ifCond .ge o) o pc' t) (ky : (¬ x < 0) → WB b l Z n M t ls st H ce sl Q) (kn : (x < 0) → WB b l Z n M pc' ls st H ce sl Q) : WB b l Z n M pc ls (.int x :: st) H ce sl Q := by
  obtain ⟨h1, rfl, h3, h4⟩ := hd
  by_cases q : (x < 0)
  · exact W.pure (fun p e s m args below meth c C T locs X target h => XS.ifNo X.here C.1 rfl (hb C.2.2.2.1 h1) rfl (XT.i0_ge_f q) h) (kn q)
  · exact W.pure (fun p e s m args below meth c C T locs X target h => XS.ifYes X.here C.1 rfl rfl (hb C.2.2.2.1 h1) rfl (XT.i0_ge_t q) h3 h4 h) (ky q)
theorem W.ifl_ge {x y : Int64} {o : Int} {t : Nat} (hd : DB M pc (.ifCond .ge o) o pc' t) (ky : (¬ x < y) → WB b l Z n M t ls st H ce sl Q) (kn : (x < y) → WB b l Z n M pc' ls st H ce sl Q) : WB b l Z n M pc ls (.int (XT.cmpL x y) :: st) H ce sl Q := by
  obtain ⟨h1, rfl, h3, h4⟩ := hd
  by_cases q : (x < y)
  · exact W.pure (fun p e s m args below meth c C T locs X target h => XS.ifNo X.here C.1 rfl (hb C.2.2.2.1 h1) rfl (XT.ll_ge_f q) h) (kn q)
  · exact W.pure (fun p e s m args below meth c C T locs X target h => XS.ifYes X.here C.1 rfl rfl (hb C.2.2.2.1 h1) rfl (XT.ll_ge_t q) h3 h4 h) (ky q)
theorem W.icmp_ge {x y : Int32} {o : Int} {t : Nat} (hd : DB M pc (.if_icmp .ge o) o pc' t) (ky : (¬ x < y) → WB b l Z n M t ls st H ce sl Q) (kn : (x < y) → WB b l Z n M pc' ls st H ce sl Q) : WB b l Z n M pc ls (.int y :: .int x :: st) H ce sl Q := by
  obtain ⟨h1, rfl, h3, h4⟩ := hd
  by_cases q : (x < y)
  · exact W.pure (fun p e s m args below meth c C T locs X target h => XS.icmpNo X.here C.1 rfl (hb C.2.2.2.1 h1) rfl (XT.ii_ge_f q) h) (kn q)
  · exact W.pure (fun p e s m args below meth c C T locs X target h => XS.icmpYes X.here C.1 rfl rfl (hb C.2.2.2.1 h1) rfl (XT.ii_ge_t q) h3 h4 h) (ky q)
theorem W.if_gt {x : Int32} {o : Int} {t : Nat} (hd : DB M pc (.ifCond .gt o) o pc' t) (ky : (0 < x) → WB b l Z n M t ls st H ce sl Q) (kn : (¬ 0 < x) → WB b l Z n M pc' ls st H ce sl Q) : WB b l Z n M pc ls (.int x :: st) H ce sl Q := by
  obtain ⟨h1, rfl, h3, h4⟩ := hd
  by_cases q : (0 < x)
  · exact W.pure (fun p e s m args below meth c C T locs X target h => XS.ifYes X.here C.1 rfl rfl (hb C.2.2.2.1 h1) rfl (XT.i0_gt_t q) h3 h4 h) (ky q)
  · exact W.pure (fun p e s m args below meth c C T locs X target h => XS.ifNo X.here C.1 rfl (hb C.2.2.2.1 h1) rfl (XT.i0_gt_f q) h) (kn q)
theorem W.ifl_gt {x y : Int64} {o : Int} {t : Nat} (hd : DB M pc (.ifCond .gt o) o pc' t) (ky : (y < x) → WB b l Z n M t ls st H ce sl Q) (kn : (¬ y < x) → WB b l Z n M pc' ls st H ce sl Q) : WB b l Z n M pc ls (.int (XT.cmpL x y) :: st) H ce sl Q := by
  obtain ⟨h1, rfl, h3, h4⟩ := hd
  by_cases q : (y < x)
  · exact W.pure (fun p e s m args below meth c C T locs X target h => XS.ifYes X.here C.1 rfl rfl (hb C.2.2.2.1 h1) rfl (XT.ll_gt_t q) h3 h4 h) (ky q)
  · exact W.pure (fun p e s m args below meth c C T locs X target h => XS.ifNo X.here C.1 rfl (hb C.2.2.2.1 h1) rfl (XT.ll_gt_f q) h) (kn q)
theorem W.icmp_gt {x y : Int32} {o : Int} {t : Nat} (hd : DB M pc (.if_icmp .gt o) o pc' t) (ky : (y < x) → WB b l Z n M t ls st H ce sl Q) (kn : (¬ y < x) → WB b l Z n M pc' ls st H ce sl Q) : WB b l Z n M pc ls (.int y :: .int x :: st) H ce sl Q := by
  obtain ⟨h1, rfl, h3, h4⟩ := hd
  by_cases q : (y < x)
  · exact W.pure (fun p e s m args below meth c C T locs X target h => XS.icmpYes X.here C.1 rfl rfl (hb C.2.2.2.1 h1) rfl (XT.ii_gt_t q) h3 h4 h) (ky q)
  · exact W.pure (fun p e s m args below meth c C T locs X target h => XS.icmpNo X.here C.1 rfl (hb C.2.2.2.1 h1) rfl (XT.ii_gt_f q) h) (kn q)
theorem W.if_le {x : Int32} {o : Int} {t : Nat} (hd : DB M pc (.ifCond .le o) o pc' t) (ky : (¬ 0 < x) → WB b l Z n M t ls st H ce sl Q) (kn : (0 < x) → WB b l Z n M pc' ls st H ce sl Q) : WB b l Z n M pc ls (.int x :: st) H ce sl Q := by
  obtain ⟨h1, rfl, h3, h4⟩ := hd
  by_cases q : (0 < x)
  · exact W.pure (fun p e s m args below meth c C T locs X target h => XS.ifNo X.here C.1 rfl (hb C.2.2.2.1 h1) rfl (XT.i0_le_f q) h) (kn q)
  · exact W.pure (fun p e s m args below meth c C T locs X target h => XS.ifYes X.here C.1 rfl rfl (hb C.2.2.2.1 h1) rfl (XT.i0_le_t q) h3 h4 h) (ky q)
theorem W.ifl_le {x y : Int64} {o : Int} {t : Nat} (hd : DB M pc (.ifCond .le o) o pc' t) (ky : (¬ y < x) → WB b l Z n M t ls st H ce sl Q) (kn : (y < x) → WB b l Z n M pc' ls st H ce sl Q) : WB b l Z n M pc ls (.int (XT.cmpL x y) :: st) H ce sl Q := by
  obtain ⟨h1, rfl, h3, h4⟩ := hd
  by_cases q : (y < x)
  · exact W.pure (fun p e s m args below meth c C T locs X target h => XS.ifNo X.here C.1 rfl (hb C.2.2.2.1 h1) rfl (XT.ll_le_f q) h) (kn q)
  · exact W.pure (fun p e s m args below meth c C T locs X target h => XS.ifYes X.here C.1 rfl rfl (hb C.2.2.2.1 h1) rfl (XT.ll_le_t q) h3 h4 h) (ky q)
theorem W.icmp_le {x y : Int32} {o : Int} {t : Nat} (hd : DB M pc (.if_icmp .le o) o pc' t) (ky : (¬ y < x) → WB b l Z n M t ls st H ce sl Q) (kn : (y < x) → WB b l Z n M pc' ls st H ce sl Q) : WB b l Z n M pc ls (.int y :: .int x :: st) H ce sl Q := by
  obtain ⟨h1, rfl, h3, h4⟩ := hd
  by_cases q : (y < x)
  · exact W.pure (fun p e s m args below meth c C T locs X target h => XS.icmpNo X.here C.1 rfl (hb C.2.2.2.1 h1) rfl (XT.ii_le_f q) h) (kn q)
  · exact W.pure (fun p e s m args below meth c C T locs X target h => XS.icmpYes X.here C.1 rfl rfl (hb C.2.2.2.1 h1) rfl (XT.ii_le_t q) h3 h4 h) (ky q)
theorem W.acmp_eq {v w : Value} {o : Int} {t : Nat} (hd : DB M pc (.if_acmp .eq o) o pc' t) (hv : v.isRef = true) (hw : w.isRef = true) (ky : (v = w) → WB b l Z n M t ls st H ce sl Q) (kn : (¬ v = w) → WB b l Z n M pc' ls st H ce sl Q) : WB b l Z n M pc ls (w :: v :: st) H ce sl Q := by
  obtain ⟨h1, rfl, h3, h4⟩ := hd
  by_cases q : (v = w)
  · exact W.pure (fun p e s m args below meth c C T locs X target h => XT.acmpYes X.here C.1 rfl rfl (hb C.2.2.2.1 h1) rfl (up_isRef n hv) (up_isRef n hw) (XT.aa_eq_t (congrArg (up n) q)) h3 h4 h) (ky q)
  · exact W.pure (fun p e s m args below meth c C T locs X target h => XT.acmpNo X.here C.1 rfl (hb C.2.2.2.1 h1) rfl (up_isRef n hv) (up_isRef n hw) (XT.aa_eq_f (fun z => q (up_inj hv hw z))) h) (kn q)
theorem W.acmp_ne {v w : Value} {o : Int} {t : Nat} (hd : DB M pc (.if_acmp .ne o) o pc' t) (hv : v.isRef = true) (hw : w.isRef = true) (ky : (¬ v = w) → WB b l Z n M t ls st H ce sl Q) (kn : (v = w) → WB b l Z n M pc' ls st H ce sl Q) : WB b l Z n M pc ls (w :: v :: st) H ce sl Q := by
  obtain ⟨h1, rfl, h3, h4⟩ := hd
  by_cases q : (v = w)
  · exact W.pure (fun p e s m args below meth c C T locs X target h => XT.acmpNo X.here C.1 rfl (hb C.2.2.2.1 h1) rfl (up_isRef n hv) (up_isRef n hw) (XT.aa_ne_f (congrArg (up n) q)) h) (kn q)
  · exact W.pure (fun p e s m args below meth c C T locs X target h => XT.acmpYes X.here C.1 rfl rfl (hb C.2.2.2.1 h1) rfl (up_isRef n hv) (up_isRef n hw) (XT.aa_ne_t (fun z => q (up_inj hv hw z))) h3 h4 h) (ky q)
theorem up_null {n : Nat} {v : Value} (hv : v.isRef = true) (h : ¬ v = .null) : ¬ up n v = .null := by cases v <;> simp_all [up, Value.isRef]
theorem W.ifnull {v : Value} {o : Int} {t : Nat} (hd : DB M pc (.ifnull o) o pc' t) (hv : v.isRef = true) (ky : (v = .null) → WB b l Z n M t ls st H ce sl Q) (kn : (¬ v = .null) → WB b l Z n M pc' ls st H ce sl Q) : WB b l Z n M pc ls (v :: st) H ce sl Q := by
  obtain ⟨h1, rfl, h3, h4⟩ := hd
  by_cases q : (v = .null)
  · exact W.pure (fun p e s m args below meth c C T locs X target h => XT.nullYes X.here C.1 rfl rfl (hb C.2.2.2.1 h1) rfl (congrArg (up n) q) h3 h4 h) (ky q)
  · exact W.pure (fun p e s m args below meth c C T locs X target h => XT.nullNo X.here C.1 rfl (hb C.2.2.2.1 h1) rfl (up_isRef n hv) (up_null hv q) h) (kn q)
theorem W.ifnonnull {v : Value} {o : Int} {t : Nat} (hd : DB M pc (.ifnonnull o) o pc' t) (hv : v.isRef = true) (ky : (¬ v = .null) → WB b l Z n M t ls st H ce sl Q) (kn : (v = .null) → WB b l Z n M pc' ls st H ce sl Q) : WB b l Z n M pc ls (v :: st) H ce sl Q := by
  obtain ⟨h1, rfl, h3, h4⟩ := hd
  by_cases q : (v = .null)
  · exact W.pure (fun p e s m args below meth c C T locs X target h => XT.nonnullNo X.here C.1 rfl (hb C.2.2.2.1 h1) rfl (congrArg (up n) q) h) (kn q)
  · exact W.pure (fun p e s m args below meth c C T locs X target h => XT.nonnullYes X.here C.1 rfl rfl (hb C.2.2.2.1 h1) rfl (up_isRef n hv) (up_null hv q) h3 h4 h) (ky q)
theorem W.nop_ {H2 : AHeap} (e : H2 = H) (k : WB b l Z n M pc ls st H2 ce sl Q) : WB b l Z n M pc ls st H ce sl Q := e ▸ k
/-! heap: reads -/
theorem W.getfield {i : Nat} {C O nm d : String} {fs : List (Key × Value)} {v : Value} {k : Nat} (j : Nat) (hd : D M pc (.getfield i) 3 pc') (w : (Cond.fieldLink M.1.cls i O nm d).before a0 Z = true) (hk : H[k]? = some (.inl (C, fs))) (hj : fs[j]? = some ((O, nm, d), v))
    (kk : WB b l Z n M pc' ls (v :: st) H ce sl Q) : WB b l Z n M pc ls (.ref k :: st) H ce sl Q := by
  obtain ⟨hd, rfl⟩ := hd
  refine W.step (fun p e s m args below meth c C T locs X hH hF => ?_) kk
  obtain ⟨T', X', e', stp⟩ := getF X C.1 C.2.1 C.2.2.1 (host := "") (Or.inl w) Via.refl rfl ((hH.2 k _ hk rfl).2.1 j _ hj) (g := mkF m pc (loc n ls) (stk n (.ref k :: st))) rfl rfl (hb C.2.2.2.1 hd)
  exact ⟨T', locs, X', e' ▸ hH, hF, stp⟩
theorem W.putfield {i : Nat} {C O nm d : String} {fs : List (Key × Value)} {v old : Value} {k kk : Nat} {ty : FieldType} (j : Nat) (hd : D M pc (.putfield i) 3 pc') (w : (Cond.fieldLink M.1.cls i O nm d).before a0 Z = true) (hk : H[k]? = some (.inl (C, fs))) (hj : fs[j]? = some ((O, nm, d), old))
    (L : (Cond.lays C O nm d).before a0 Z = true ∨ ((Cond.laysFinal C O nm d).before a0 Z = true ∧ M.1.cls = O ∧ M.1.name = "<init>")) (wi : (Cond.instantiable C kk).before a0 Z = true) (hty : parseFieldDescriptor d = some ty) (hn : ∀ n, narrow ty (up n v) = up n v) (hf : ∀ n, fits ty (up n v) = true)
    (k' : WB b l Z n M pc' ls st (H.set k (.inl (C, fs.set j ((O, nm, d), v)))) ce sl Q) : WB b l Z n M pc ls (v :: .ref k :: st) H ce sl Q := by
  obtain ⟨hd, rfl⟩ := hd
  refine W.step (fun p e s m args below meth c C T locs X hH hF => ?_) k'
  have O1 := hH.2 k _ hk rfl
  obtain ⟨T', h', X', e', Wq, stp⟩ := putF X C.1 C.2.1 C.2.2.1 (host := "") (Or.inl w) Via.refl rfl (O1.2.1 j _ hj) O1.1 (L.imp id (fun q => ⟨q.1, q.2.1, C.2.2.2.2.2.2.2.trans q.2.2⟩)) wi hty (hn n) (hf n) (g := mkF m pc (loc n ls) (stk n (v :: .ref k :: st))) rfl rfl (hb C.2.2.2.1 hd)
  subst e'
  exact ⟨T', _, X', hH.put Wq (OR.field (hH.2 k _ hk rfl) hj Wq), Fr.snoc X' hF (Nat.le_add_right n k), stp⟩
theorem arr_at {ty : FieldType} {vs : List Value} {cl : Cell} {i : Nat} {v : Value} {j : Int32} (e : cl.slots = (vs.map (up n)).toArray) (hj : ¬ j < 0 ∧ j.toNatClampNeg = i) (hv : vs[i]? = some v) : ¬ (j < 0 ∨ cl.slots.size ≤ j.toNatClampNeg) ∧ cl.slots[j.toNatClampNeg]? = some (up n v) := by
  have hlt := (List.getElem?_eq_some_iff.mp hv).1
  refine ⟨fun q => q.elim hj.1 fun q => ?_, ?_⟩
  · rw [e, hj.2, List.size_toArray, List.length_map] at q; omega
  · rw [e, hj.2]; simp [hv]
theorem W.arraylength {k : Nat} {ty : FieldType} {vs : List Value} (z : Int32) (hd : D M pc .arraylength 1 pc') (hk : H[k]? = some (.inr (ty, vs))) (hJ : isJ (.inr (ty, vs)) = false) (hN : Int32.ofNat vs.length = z) (kk : WB b l Z n M pc' ls (.int z :: st) H ce sl Q) : WB b l Z n M pc ls (.ref k :: st) H ce sl Q := by
  obtain ⟨hd, rfl⟩ := hd
  refine W.step (fun p e s m args below meth c C T locs X hH hF => ?_) kk
  obtain ⟨cl, A, e'⟩ := hH.2 k _ hk hJ
  refine ⟨T, locs, X, hH, hF, fun target h => X.arraylength C.1 A.1 (State.isArrayOf_alike C.2.1.alike A.2.1) (g := mkF m pc (loc n ls) (stk n (.ref k :: st))) rfl rfl (hb C.2.2.2.1 hd) _ ?_⟩
  have : cl.slots.size.toInt32 = z := by rw [e', List.size_toArray, List.length_map, ← hN]
  rw [this]; exact h
theorem W.iaload {k i : Nat} {vs : List Value} {v : Value} {j : Int32} (hd : D M pc .iaload 1 pc') (hk : H[k]? = some (.inr (.int, vs))) (hj : ¬ j < 0 ∧ j.toNatClampNeg = i) (hv : vs[i]? = some v) (kk : WB b l Z n M pc' ls (v :: st) H ce sl Q) : WB b l Z n M pc ls (.int j :: .ref k :: st) H ce sl Q := by
  obtain ⟨hd, rfl⟩ := hd
  refine W.step (fun p e s m args below meth c C T locs X hH hF => ?_) kk
  obtain ⟨cl, A, e'⟩ := hH.2 k _ hk rfl
  obtain ⟨q1, q2⟩ := arr_at (ty := .int) e' hj hv
  exact ⟨T, locs, X, hH, hF, fun target h => X.iaload C.1 A.1 (State.isArrayOf_alike C.2.1.alike A.2.1) A.2.2 q1 q2 (g := mkF m pc (loc n ls) (stk n (.int j :: .ref k :: st))) rfl rfl (hb C.2.2.2.1 hd) _ h⟩
theorem W.laload {k i : Nat} {vs : List Value} {v : Value} {j : Int32} (hd : D M pc .laload 1 pc') (hk : H[k]? = some (.inr (.long, vs))) (hj : ¬ j < 0 ∧ j.toNatClampNeg = i) (hv : vs[i]? = some v) (kk : WB b l Z n M pc' ls (v :: st) H ce sl Q) : WB b l Z n M pc ls (.int j :: .ref k :: st) H ce sl Q := by
  obtain ⟨hd, rfl⟩ := hd
  refine W.step (fun p e s m args below meth c C T locs X hH hF => ?_) kk
  obtain ⟨cl, A, e'⟩ := hH.2 k _ hk rfl
  obtain ⟨q1, q2⟩ := arr_at (ty := .int) e' hj hv
  exact ⟨T, locs, X, hH, hF, fun target h => X.laload C.1 A.1 (State.isArrayOf_alike C.2.1.alike A.2.1) A.2.2 q1 q2 (g := mkF m pc (loc n ls) (stk n (.int j :: .ref k :: st))) rfl rfl (hb C.2.2.2.1 hd) _ h⟩
theorem W.baload {k i : Nat} {vs : List Value} {v : Value} {j : Int32} (hd : D M pc .baload 1 pc') (hk : H[k]? = some (.inr (.byte, vs))) (hj : ¬ j < 0 ∧ j.toNatClampNeg = i) (hv : vs[i]? = some v) (kk : WB b l Z n M pc' ls (v :: st) H ce sl Q) : WB b l Z n M pc ls (.int j :: .ref k :: st) H ce sl Q := by
  obtain ⟨hd, rfl⟩ := hd
  refine W.step (fun p e s m args below meth c C T locs X hH hF => ?_) kk
  obtain ⟨cl, A, e'⟩ := hH.2 k _ hk rfl
  obtain ⟨q1, q2⟩ := arr_at (ty := .int) e' hj hv
  exact ⟨T, locs, X, hH, hF, fun target h => X.baloadBytes C.1 A.1 (State.isArrayOf_alike C.2.1.alike A.2.1) A.2.2 q1 q2 (g := mkF m pc (loc n ls) (stk n (.int j :: .ref k :: st))) rfl rfl (hb C.2.2.2.1 hd) _ h⟩
theorem W.zaload {k i : Nat} {vs : List Value} {v : Value} {j : Int32} (hd : D M pc .baload 1 pc') (hk : H[k]? = some (.inr (.boolean, vs))) (hj : ¬ j < 0 ∧ j.toNatClampNeg = i) (hv : vs[i]? = some v) (kk : WB b l Z n M pc' ls (v :: st) H ce sl Q) : WB b l Z n M pc ls (.int j :: .ref k :: st) H ce sl Q := by
  obtain ⟨hd, rfl⟩ := hd
  refine W.step (fun p e s m args below meth c C T locs X hH hF => ?_) kk
  obtain ⟨cl, A, e'⟩ := hH.2 k _ hk rfl
  obtain ⟨q1, q2⟩ := arr_at (ty := .int) e' hj hv
  exact ⟨T, locs, X, hH, hF, fun target h => X.baloadBooleans C.1 A.1 (State.isArrayOf_alike C.2.1.alike A.2.1) A.2.2 q1 q2 (g := mkF m pc (loc n ls) (stk n (.int j :: .ref k :: st))) rfl rfl (hb C.2.2.2.1 hd) _ h⟩
/-! heap: stores into arrays -/
theorem arr_in' {vs : List Value} {cl : Cell} {i : Nat} {j : Int32} (e : cl.slots = (vs.map (up n)).toArray) (hj : ¬ j < 0 ∧ j.toNatClampNeg = i) (hv : i < vs.length) : ¬ (j < 0 ∨ cl.slots.size ≤ j.toNatClampNeg) := by
  refine fun q => q.elim hj.1 fun q => ?_
  rw [e, hj.2] at q; simp at q; omega
theorem W.iastore {k i : Nat} {vs : List Value} {x : Int32} {j : Int32} (hd : D M pc .iastore 1 pc') (hk : H[k]? = some (.inr (.int, vs))) (hj : ¬ j < 0 ∧ j.toNatClampNeg = i) (hv : i < vs.length) (kk : WB b l Z n M pc' ls st (H.set k (.inr (.int, vs.set i (.int x)))) ce sl Q) : WB b l Z n M pc ls (.int x :: .int j :: .ref k :: st) H ce sl Q := by
  obtain ⟨hd, rfl⟩ := hd
  refine W.step (fun p e s m args below meth c C T locs X hH hF => ?_) kk
  have O1 := hH.2 k _ hk rfl
  obtain ⟨cl, A, e'⟩ := O1
  obtain ⟨T', h', X', eh, Wq, stp⟩ := stI X C.1 C.2.1 rfl A (arr_in' e' hj hv) (g := mkF m pc (loc n ls) (stk n (.int x :: .int j :: .ref k :: st))) rfl rfl (hb C.2.2.2.1 hd)
  subst eh
  rw [hj.2] at Wq
  exact ⟨T', _, X', hH.put Wq (OR.elem (w := .int x) ⟨cl, A, e'⟩ Wq), Fr.snoc X' hF (Nat.le_add_right n k), stp⟩
theorem W.lastore {k i : Nat} {vs : List Value} {x : Int64} {j : Int32} (hd : D M pc .lastore 1 pc') (hk : H[k]? = some (.inr (.long, vs))) (hj : ¬ j < 0 ∧ j.toNatClampNeg = i) (hv : i < vs.length) (kk : WB b l Z n M pc' ls st (H.set k (.inr (.long, vs.set i (.long x)))) ce sl Q) : WB b l Z n M pc ls (.long x :: .int j :: .ref k :: st) H ce sl Q := by
  obtain ⟨hd, rfl⟩ := hd
  refine W.step (fun p e s m args below meth c C T locs X hH hF => ?_) kk
  have O1 := hH.2 k _ hk rfl
  obtain ⟨cl, A, e'⟩ := O1
  obtain ⟨T', h', X', eh, Wq, stp⟩ := stJ X C.1 C.2.1 rfl A (arr_in' e' hj hv) (g := mkF m pc (loc n ls) (stk n (.long x :: .int j :: .ref k :: st))) rfl rfl (hb C.2.2.2.1 hd)
  subst eh
  rw [hj.2] at Wq
  exact ⟨T', _, X', hH.put Wq (OR.elem (w := .long x) ⟨cl, A, e'⟩ Wq), Fr.snoc X' hF (Nat.le_add_right n k), stp⟩
theorem W.bastore {k i : Nat} {vs : List Value} {x : Int32} {j : Int32} (hd : D M pc .bastore 1 pc') (hk : H[k]? = some (.inr (.byte, vs))) (hj : ¬ j < 0 ∧ j.toNatClampNeg = i) (hv : i < vs.length) (kk : WB b l Z n M pc' ls st (H.set k (.inr (.byte, vs.set i (.int x.toInt8.toInt32)))) ce sl Q) : WB b l Z n M pc ls (.int x :: .int j :: .ref k :: st) H ce sl Q := by
  obtain ⟨hd, rfl⟩ := hd
  refine W.step (fun p e s m args below meth c C T locs X hH hF => ?_) kk
  have O1 := hH.2 k _ hk rfl
  obtain ⟨cl, A, e'⟩ := O1
  obtain ⟨T', h', X', eh, Wq, stp⟩ := stB X C.1 C.2.1 rfl A (arr_in' e' hj hv) (g := mkF m pc (loc n ls) (stk n (.int x :: .int j :: .ref k :: st))) rfl rfl (hb C.2.2.2.1 hd)
  subst eh
  rw [hj.2] at Wq
  exact ⟨T', _, X', hH.put Wq (OR.elem (w := .int x.toInt8.toInt32) ⟨cl, A, e'⟩ Wq), Fr.snoc X' hF (Nat.le_add_right n k), stp⟩
theorem W.zastore {k i : Nat} {vs : List Value} {x : Int32} {j : Int32} (hd : D M pc .bastore 1 pc') (hk : H[k]? = some (.inr (.boolean, vs))) (hj : ¬ j < 0 ∧ j.toNatClampNeg = i) (hv : i < vs.length) (kk : WB b l Z n M pc' ls st (H.set k (.inr (.boolean, vs.set i (.int (x &&& 1))))) ce sl Q) : WB b l Z n M pc ls (.int x :: .int j :: .ref k :: st) H ce sl Q := by
  obtain ⟨hd, rfl⟩ := hd
  refine W.step (fun p e s m args below meth c C T locs X hH hF => ?_) kk
  have O1 := hH.2 k _ hk rfl
  obtain ⟨cl, A, e'⟩ := O1
  obtain ⟨T', h', X', eh, Wq, stp⟩ := stZ X C.1 C.2.1 rfl A (arr_in' e' hj hv) (g := mkF m pc (loc n ls) (stk n (.int x :: .int j :: .ref k :: st))) rfl rfl (hb C.2.2.2.1 hd)
  subst eh
  rw [hj.2] at Wq
  exact ⟨T', _, X', hH.put Wq (OR.elem (w := .int (x &&& 1)) ⟨cl, A, e'⟩ Wq), Fr.snoc X' hF (Nat.le_add_right n k), stp⟩
/-! heap: makers -/
theorem ext_push (h : Heap) (x : Cell) : Ext h (h.push x) ∧ (h.push x).size = h.size + 1 ∧ (h.push x)[h.size]? = some x :=
  ⟨⟨by simp, fun a c q => by rw [Array.getElem?_push_lt (Array.getElem?_eq_some_iff.mp q).1]; exact (Array.getElem?_eq_getElem _).symm.trans q⟩, by simp, by simp⟩
theorem W.new {i nk N : Nat} {C : String} {fs : List (Key × Value)} (hd : D M pc (.new i) 3 pc') (w : (Cond.classLink M.1.cls i C).before a0 Z = true) (K : OkC a0 Z C nk fs) (hN : H.length = N) (hc : ce + 1 ≤ M.2.2.2.2.cells) (hl : sl + nk ≤ M.2.2.2.2.slots)
    (kk : WB b l Z n M pc' ls (.ref N :: st) (H ++ [.inl (C, fs)]) (ce + 1) (sl + nk) Q) : WB b l Z n M pc ls st H ce sl Q := by
  obtain ⟨hd, rfl⟩ := hd
  refine W.step (fun p e s m args below meth c Cx T locs X hH hF => ?_) kk
  obtain ⟨vm', cC, kC, h1, h2, h3, h4, X', stp⟩ := X.newCold Cx.1 Cx.2.2.1 (mv Cx.2.1 w) (mv Cx.2.1 K.1) (mv Cx.2.1 K.2.1) (g := mkF m pc (loc n ls) (stk n st)) rfl (hb Cx.2.2.2.1 hd) hc hl
  obtain ⟨E, S, G⟩ := ext_push T.heap { cls := cC, slots := kC.instanceTypes.map defaultValue, vm := .none }
  have hfc : Z.vm.findClass C = some cC := by rw [← Cx.2.1.alike.findClass]; exact h1
  obtain ⟨kZ, z1, -⟩ := Vm.findClass_spec hfc
  obtain ⟨k', z2, z3⟩ := Cx.2.1.alike.2.2 _ _ z1
  cases h2.symm.trans z2
  have ei : kC.instanceTypes = kZ.instanceTypes := by rw [z3]
  refine ⟨_, locs, X', hH.push E S ⟨⟨_, kZ, G, hfc, z1, rfl, fun _ => by simp [ei]⟩, fun j q hq => ?_, K.slots⟩, hF, fun target h => stp target ?_⟩
  · obtain ⟨ty, L, ht, hv⟩ := K.2.2.1 q (List.mem_of_getElem? hq)
    obtain ⟨c1, k1, cf, kf, i1, f, a1, a2, a3, a4, a5, a6, -⟩ := L.spec
    cases hfc.symm.trans a1
    cases z1.symm.trans a2
    exact ⟨_, cf, kf, i1, f, G, a3, a4, by simp, rfl, a5, by rw [hv, up_default]; simp [ei, a6, (State.fieldFound?_type a3 ht).2]⟩
  · have : T.heap.size = n + N := by rw [hH.1, hN]
    rw [this]; exact h
theorem W.newarray {aty : ArrayType} {N cnt cap : Nat} {z : Int32} (hd : D M pc (.newarray aty) 2 pc') (w : (Cond.arrayClass (newarray.typeOf aty)).before a0 Z = true) (hz : ¬ z < 0 ∧ z.toNatClampNeg = cnt) (hN : H.length = N) (hcap : cnt ≤ cap) (hb8 : cap * 8 ≤ 536870912) (hc : ce + 1 ≤ M.2.2.2.2.cells) (hl : sl + cap ≤ M.2.2.2.2.slots)
    (kk : WB b l Z n M pc' ls (.ref N :: st) (H ++ [.inr (newarray.typeOf aty, List.replicate cnt (defaultValue (newarray.typeOf aty)))]) (ce + 1) (sl + cap) Q) : WB b l Z n M pc ls (.int z :: st) H ce sl Q := by
  obtain ⟨hd, rfl⟩ := hd
  obtain ⟨hz0, rfl⟩ := hz
  refine W.step (fun p e s m args below meth c Cx T locs X hH hF => ?_) kk
  have hcb : componentBytes (newarray.typeOf aty) ≤ 8 := by cases aty <;> decide
  obtain ⟨cA, kA, comp, h1, h2, h3, X', stp⟩ := X.newarrayPrim Cx.1 (mvA Cx.2.1 w) (g := mkF m pc (loc n ls) (stk n (.int z :: st))) rfl (hb Cx.2.2.2.1 hd) rfl hz0 (Nat.le_trans (Nat.mul_le_mul hcap hcb) hb8) hc (Nat.le_trans (Nat.add_le_add_left hcap _) hl)
  obtain ⟨E, S, G⟩ := ext_push T.heap { cls := cA, slots := Array.replicate z.toNatClampNeg (defaultValue (newarray.typeOf aty)), vm := .none }
  have hfc := h1
  rw [Cx.2.1.alike.findClass] at hfc
  obtain ⟨kZ, z1, -⟩ := Vm.findClass_spec hfc
  obtain ⟨k', z2, z3⟩ := Cx.2.1.alike.2.2 _ _ z1
  cases h2.symm.trans z2
  refine ⟨_, locs, X'.more (Nat.le_refl _) (Nat.add_le_add_left hcap _), hH.push E S ⟨_, ⟨G, ⟨by simp, kZ, z1, comp, by rw [← h3, z3]⟩, by simp⟩, ?_⟩, hF, fun target h => stp target ?_⟩
  · simp [up_default]
  · have : T.heap.size = n + N := by rw [hH.1, hN]
    rw [this]; exact h
/-! returns -/
theorem W.fin {v : Option Value} (hv : M.2.2.2.1 = none → v = none) (hc : ce ≤ M.2.2.2.2.cells) (hl : sl ≤ M.2.2.2.2.slots)
    (go : ∀ (p : Program) (e : Env) (s : State) (m : MethodId) (args : Array Value) (below : List Frame) (meth : Method) (c : Code), Ctx Z M p s m meth c → ∀ (T : State) (locs : List Loc), Stand p l e M.2.2.2.2 s m args below meth c T locs ce sl →
      ∀ fs : List Frame, (∀ (f : JFrame) (acts : List Action), f.method = m → f.locked = none → f.entered = [] → (doReturn e (T.setTop f) acts (v.map (up n))).1 = T.setFrames fs) → Steps p.tables e below (T.setTop (mkF m pc (loc n ls) (stk n st))) (T.setFrames fs))
    (q : Q v H) : WB b l Z n M pc ls st H ce sl Q := fun p e s m args below meth c C T locs X hH hF => by
  obtain ⟨fs, hr, hrun, hended, hW, hsame⟩ := X.leave (v := v.map (up n)) (fun h => by rw [hv (C.2.2.2.2.2.1.symm.trans h)]; rfl) C.2.2.2.2.2.2.1
  exact ⟨_, v, locs, H, go p e s m args below meth c C T locs X fs hr, hrun, hended, q, hH, hF, EndR.of ⟨⟨_, rfl⟩, hW, hsame.mono hc hl⟩⟩
theorem W.leave (hd : D M pc .return_ 1 pc') (hr : M.2.2.2.1 = none) (hc : ce ≤ M.2.2.2.2.cells) (hl : sl ≤ M.2.2.2.2.slots) (q : Q none H) : WB b l Z n M pc ls [] H ce sl Q :=
  W.fin (v := none) (fun _ => rfl) hc hl (fun p e s m args below meth c C T locs X fs h => X.returnOut C.1 (C.2.2.2.2.2.1.trans hr) (hb C.2.2.2.1 hd.1) h) q
theorem W.ireturn {x : Int32} (hd : D M pc .ireturn 1 pc') (hr : M.2.2.2.1 = some .int) (hc : ce ≤ M.2.2.2.2.cells) (hl : sl ≤ M.2.2.2.2.slots) (q : Q (some (.int x)) H) : WB b l Z n M pc ls (.int x :: st) H ce sl Q :=
  W.fin (v := some (.int x)) (fun h => by rw [hr] at h; cases h) hc hl (fun p e s m args below meth c C T locs X fs h => retOut X C.1 (t := .int) (w := .int x) (i := .ireturn) (C.2.2.2.2.2.1.trans hr) rfl (Or.inl ⟨rfl, Or.inl rfl, _, rfl⟩) (hb C.2.2.2.1 hd.1) h) q
theorem W.lreturn {x : Int64} (hd : D M pc .lreturn 1 pc') (hr : M.2.2.2.1 = some .long) (hc : ce ≤ M.2.2.2.2.cells) (hl : sl ≤ M.2.2.2.2.slots) (q : Q (some (.long x)) H) : WB b l Z n M pc ls (.long x :: st) H ce sl Q :=
  W.fin (v := some (.long x)) (fun h => by rw [hr] at h; cases h) hc hl (fun p e s m args below meth c C T locs X fs h => retOut X C.1 (t := .long) (w := .long x) (i := .lreturn) (C.2.2.2.2.2.1.trans hr) rfl (Or.inr (Or.inl ⟨rfl, rfl, _, rfl⟩)) (hb C.2.2.2.1 hd.1) h) q
/-- a boolean, byte, char or short: what is left of the int -/
theorem W.nreturn {x : Int32} (t : FieldType) (hd : D M pc .ireturn 1 pc') (hr : M.2.2.2.1 = some t) (ht : t = .boolean ∨ t = .byte ∨ t = .char ∨ t = .short) (hc : ce ≤ M.2.2.2.2.cells) (hl : sl ≤ M.2.2.2.2.slots) (q : Q (some (.int (nar t x))) H) : WB b l Z n M pc ls (.int x :: st) H ce sl Q :=
  W.fin (v := some (.int (nar t x))) (fun h => by rw [hr] at h; cases h) hc hl (fun p e s m args below meth c C T locs X fs h => retN X C.1 (C.2.2.2.2.2.1.trans hr) ht (hb C.2.2.2.1 hd.1) h) q
theorem W.areturn {v : Value} {t : FieldType} (hd : D M pc .areturn 1 pc') (hr : M.2.2.2.1 = some t) (ht : t.isReference = true) (hv : rfn v = true) (hc : ce ≤ M.2.2.2.2.cells) (hl : sl ≤ M.2.2.2.2.slots) (q : Q (some v) H) : WB b l Z n M pc ls (v :: st) H ce sl Q :=
  W.fin (v := some v) (fun h => by rw [hr] at h; cases h) hc hl (fun p e s m args below meth c C T locs X fs h => retOut X C.1 (t := t) (w := up n v) (i := .areturn) (C.2.2.2.2.2.1.trans hr) (by cases v <;> simp [rfn] at hv <;> cases t <;> simp_all [FieldType.isReference, narrow, up]) (Or.inr (Or.inr (Or.inr (Or.inr ⟨rfl, ht, up_rfn n hv⟩)))) (hb C.2.2.2.1 hd.1) h) q
/-! calls -/
def entryL (as : List Value) (k : Nat) : List Slot := Jvm.Sym.laidSlots as ++ List.replicate (k - (Jvm.Sym.laidSlots as).length) .unset
theorem laid_up (n : Nat) : ∀ as : List Value, Jvm.Sym.laidSlots (as.map (up n)) = (Jvm.Sym.laidSlots as).map (upS n)
  | [] => rfl
  | v :: as => by
    have ih := laid_up n as
    simp only [List.map_cons, Jvm.Sym.laidSlots, up_cat]
    split <;> simp [ih, upS]
theorem entry_up (n : Nat) (as : List Value) (k : Nat) (m : MethodId) : entryFrame m (as.map (up n)).toArray k = mkF m 0 (loc n (entryL as k)) [] := by
  have : argsToLocals (as.map (up n)).toArray k = loc n (entryL as k) := Array.toList_inj.mp (by
    rw [Jvm.Sym.argsToLocals_toList]
    simp [entryL, laid_up, loc, upS])
  unfold entryFrame
  rw [this]
theorem W.met {as : List Value} (hW : WB b l Z n M 0 (entryL as M.2.2.1) [] H 0 0 Q) (pn : plainFor M.1 = true) {h : Heap} (hH : HR Z n h H) (ws : List Jvm.Cond) :
    MetFree l M.1 (head1 (Cond.code M.1 M.2.1 M.2.2.1 M.2.2.2.1 :: ws) M.2.2.2.2) (fun a U => a = (as.map (up n)).toArray ∧ Z.Warmed39 U.vm ∧ U.heap = h) (fun _ _ _ _ _ => True)
      (fun _ U o U' => ∃ v L, o = .returned v ∧ (∃ v0 H', v = v0.map (up n) ∧ Q v0 H' ∧ HR Z n U'.heap H' ∧ Fr n L) ∧ EndR b U o U' L M.2.2.2.2.cells M.2.2.2.2.slots) := by
  refine MetFree.of_bodySF pn hisR ?_
  intro p e s m args below meth c s₁ Bd hml hP hK
  obtain ⟨rfl, hZ, hh⟩ := hP
  have X0 : Stand p l e M.2.2.2.2 s m _ below meth c s₁ [] 0 0 := Stand.of_body Bd
  have e0 : s₁.heap = h := by rw [← hh, Bd.state]; rfl
  obtain ⟨s₂, v, L, H', h1, h2, h3, h4, h5, h6, h7⟩ := hW p e s m _ below meth c ⟨Bd.exec, hZ, findClass_of_methodNamed Bd.named, Bd.bytes, hml, Bd.returns, Bd.notSynchronized, (name_of_methodNamed Bd.named Bd.method).1⟩ s₁ [] X0 (e0 ▸ hH) (Fr.nil n)
  exact ⟨s₂, _, castTop (entry_up n as _ m) h1, h2, h3, _, L, rfl, ⟨v, H', rfl, h4, h5, h6⟩, h7⟩
def RetQ (Z : State) (n : Nat) (Q : Option Value → AHeap → Prop) (v : Option Value) (h2 : Heap) (L : List Loc) : Prop := ∃ v0 H', v = v0.map (up n) ∧ Q v0 H' ∧ HR Z n h2 H' ∧ Fr n L
theorem W.metF {as : List Value} (hW : W l Z n M 0 (entryL as M.2.2.1) [] H 0 0 Q) (pn : plainFor M.1 = true) {h : Heap} (hH : HR Z n h H) (ws : List Jvm.Cond) :
    MetFree l M.1 (head1 (Cond.code M.1 M.2.1 M.2.2.1 M.2.2.2.1 :: ws) M.2.2.2.2) (fun a U => a = (as.map (up n)).toArray ∧ Z.Warmed39 U.vm ∧ U.heap = h) (fun _ _ _ _ _ => True)
      (fun _ U o U' => ∃ v L, o = .returned v ∧ RetQ Z n Q v U'.heap L ∧ FrameEnd U o U' L M.2.2.2.2.cells M.2.2.2.2.slots) := W.met hW pn hH ws
/-- what every call asks of the callee's own words -/
def OkM (a0 : Array Value) (Z : State) (M : Meth) (k : Nat) : Prop :=
  (Cond.code M.1 M.2.1 M.2.2.1 M.2.2.2.1).before a0 Z = true ∧ (Cond.initialized M.1.cls).before a0 Z = true ∧ plainFor M.1 = true ∧ (M.1.cls ≠ "java/lang/invoke/MethodHandle" ∧ M.1.cls ≠ "java/lang/invoke/VarHandle") ∧ ∀ sig, parseMethodDescriptor M.1.desc = some sig → k = sig.parameters.length
theorem arity {d : String} {ps : List FieldType} {r : Option FieldType} {k : Nat} (hd : parseMethodDescriptor d = some ⟨ps, r⟩) (hl : k = ps.length) : ∀ sig, parseMethodDescriptor d = some sig → k = sig.parameters.length := fun sig h => by
  cases hd.symm.trans h; exact hl
def wt (st : List Value) : Nat := (st.map fun v => v.category).sum
theorem wt_up (n : Nat) : ∀ st : List Value, ((stk n st).map fun v => v.category).sum = wt st
  | [] => rfl
  | v :: st => by
    have ih := wt_up n st
    simp only [stk, wt, List.map_cons, List.sum_cons, up_cat] at ih ⊢
    rw [ih]
/-- the callee's frames, words, cells and slots fit -/
def fitsRoom (M M' : Meth) (rest : List Value) (ce sl : Nat) : Bool :=
  decide (M'.2.2.2.2.frames + 1 ≤ M.2.2.2.2.frames) && decide (wt rest + (M'.2.2.1 + 11) + M'.2.2.2.2.locals ≤ M.2.2.2.2.locals) && decide (ce + M'.2.2.2.2.cells ≤ M.2.2.2.2.cells) && decide (sl + M'.2.2.2.2.slots ≤ M.2.2.2.2.slots)
theorem fits_ {M M' : Meth} {rest : List Value} {ce sl : Nat} (h : fitsRoom M M' rest ce sl = true) : M'.2.2.2.2.frames + 1 ≤ M.2.2.2.2.frames ∧ wt rest + (M'.2.2.1 + 11) + M'.2.2.2.2.locals ≤ M.2.2.2.2.locals ∧ ce + M'.2.2.2.2.cells ≤ M.2.2.2.2.cells ∧ sl + M'.2.2.2.2.slots ≤ M.2.2.2.2.slots := by
  simp only [fitsRoom, Bool.and_eq_true, decide_eq_true_eq] at h
  exact ⟨h.1.1.1, h.1.1.2, h.1.2, h.2⟩
theorem size_loc (n : Nat) (ls : List Slot) : (loc n ls).size = ls.length := by simp [loc]
theorem W.calls {M' : Meth} {i : Nat} {as rest : List Value} {Qc : Option Value → AHeap → Prop} (hd : D M pc (.invokestatic i) 3 pc') (w : (Cond.methodLink M.1.cls i M'.1).before a0 Z = true) (ws : (Cond.static M'.1).before a0 Z = true) (K : OkM a0 Z M' as.length) (hs : st = as.reverse ++ rest) (hz : ls.length = M.2.2.1) (hf : fitsRoom M M' rest ce sl = true)
    (hM : W l Z n M' 0 (entryL as M'.2.2.1) [] H 0 0 Qc) (kk : ∀ v H', Qc v H' → WB b l Z n M pc' ls (v.toList ++ rest) H' (ce + M'.2.2.2.2.cells) (sl + M'.2.2.2.2.slots) Q) : WB b l Z n M pc ls st H ce sl Q := by
  obtain ⟨hd, rfl⟩ := hd
  subst hs
  intro p e s m args below meth c C T locs X hH hF
  obtain ⟨f1, f2, f3, f4⟩ := fits_ hf
  obtain ⟨_, _, ⟨T', L', c', s'⟩, -, X', ⟨Lc, ⟨v0, H', hv, q1, q2, q3⟩, l1, l2, l3⟩, stp⟩ := Jvm.LawKit.callS X C.1 (y := M'.1) C.2.2.1 (mvT C.2.1 w) (mvT C.2.1 ws) (mvT C.2.1 K.2.1) (mvT C.2.1 K.1) K.2.2.2.1 (backOf (Q := RetQ Z n Qc) (W := wt rest) (W.metF hM K.2.2.1 hH []) C.2.1 K.1 K.2.1 f1 f2) (g := mkF m pc (loc n ls) (stk n (as.reverse ++ rest))) rfl
    ((size_loc n ls).trans (hz.trans C.2.2.2.2.1.symm)) (argsL := as.map (up n)) (rest := stk n rest) (fun sig h => by rw [List.length_map]; exact K.2.2.2.2 sig h) (by simp [stk, List.map_append, List.map_reverse]) (by rw [wt_up]; exact Nat.le_of_eq (Nat.zero_add _)) (hb C.2.2.2.1 hd) (fun _ _ => ⟨rfl, rfl, f3, f4⟩)
  dsimp only [Pt.U, Pt.locs, Pt.cells, Pt.slots] at X' l1 l2 l3 stp q2
  subst l1 l2 l3 hv
  obtain ⟨s₂, v, L, H'', g1, g2⟩ := kk v0 H' q1 p e s m args below meth c C T' _ X' q2 (Fr.app hF q3)
  refine ⟨s₂, v, L, H'', stp _ ?_, g2⟩
  have : stk n (v0.toList ++ rest) = (v0.map (up n)).toList ++ stk n rest := by cases v0 <;> simp [stk]
  rw [this] at g1; exact g1
theorem W.callv {M' : Meth} {i k : Nat} {C : String} {fs : List (Key × Value)} {as rest : List Value} {Qc : Option Value → AHeap → Prop} (hd : D M pc (.invokevirtual i) 3 pc') (w : (Cond.methodLink M.1.cls i M'.1).before a0 Z = true) (wd : (Cond.declares M'.1).before a0 Z = true) (wi : (Cond.instanceMethod M'.1).before a0 Z = true) (wsel : (Cond.selects C M'.1 M'.1).before a0 Z = true) (K : OkM a0 Z M' as.length) (hk : H[k]? = some (.inl (C, fs))) (hs : st = as.reverse ++ .ref k :: rest) (hz : ls.length = M.2.2.1) (hf : fitsRoom M M' rest ce sl = true)
    (hM : W l Z n M' 0 (entryL (.ref k :: as) M'.2.2.1) [] H 0 0 Qc) (kk : ∀ v H', Qc v H' → WB b l Z n M pc' ls (v.toList ++ rest) H' (ce + M'.2.2.2.2.cells) (sl + M'.2.2.2.2.slots) Q) : WB b l Z n M pc ls st H ce sl Q := by
  obtain ⟨hd, rfl⟩ := hd
  subst hs
  intro p e s m args below meth c Cx T locs X hH hF
  obtain ⟨f1, f2, f3, f4⟩ := fits_ hf
  obtain ⟨cq, kq, qa, qb, qc⟩ := isOf (T := T) Cx.2.1 rfl (hH.2 k _ hk rfl).1
  obtain ⟨_, _, ⟨T', L', c', s'⟩, -, X', ⟨Lc, ⟨v0, H', hv, q1, q2, q3⟩, l1, l2, l3⟩, stp⟩ := X.virtualBack Cx.1 (y := M'.1) (z := M'.1) Cx.2.2.1 (mvT Cx.2.1 w) (mvT Cx.2.1 wd) (notFace_of_selects (args := #[]) (mvT Cx.2.1 wsel)) (mvT Cx.2.1 wsel) (mvT Cx.2.1 wi) K.2.2.2.1 (backOf (Q := RetQ Z n Qc) (W := wt rest) (W.metF hM K.2.2.1 hH []) Cx.2.1 K.1 K.2.1 f1 f2) qa qc (g := mkF m pc (loc n ls) (stk n (as.reverse ++ .ref k :: rest))) rfl
    ((size_loc n ls).trans (hz.trans Cx.2.2.2.2.1.symm)) (Steps.refl _) (argsL := as.map (up n)) (rest := stk n rest) (fun sig h => by rw [List.length_map]; exact K.2.2.2.2 sig h) (by simp [stk, List.map_append, List.map_reverse, up]) (by rw [wt_up]; exact Nat.le_of_eq (Nat.zero_add _)) (hb Cx.2.2.2.1 hd) (fun _ _ => ⟨rfl, rfl, f3, f4⟩)
  dsimp only [Pt.U, Pt.locs, Pt.cells, Pt.slots] at X' l1 l2 l3 stp q2
  subst l1 l2 l3 hv
  obtain ⟨s₂, v, L, H'', g1, g2⟩ := kk v0 H' q1 p e s m args below meth c Cx T' _ X' q2 (Fr.app hF q3)
  refine ⟨s₂, v, L, H'', stp.trans ?_, g2⟩
  have : stk n (v0.toList ++ rest) = (v0.map (up n)).toList ++ stk n rest := by cases v0 <;> simp [stk]
  rw [this] at g1; exact g1
theorem W.callp {M' : Meth} {i k kk0 : Nat} {fs : List (Key × Value)} {as rest : List Value} {Qc : Option Value → AHeap → Prop} (hd : D M pc (.invokevirtual i) 3 pc') (w : (Cond.methodLink M.1.cls i M'.1).before a0 Z = true) (wi : (Cond.instanceMethod M'.1).before a0 Z = true) (wp : (Cond.privateMethod M'.1).before a0 Z = true) (wk : (Cond.instantiable M'.1.cls kk0).before a0 Z = true) (K : OkM a0 Z M' as.length) (hk : H[k]? = some (.inl (M'.1.cls, fs))) (hs : st = as.reverse ++ .ref k :: rest) (hz : ls.length = M.2.2.1) (hf : fitsRoom M M' rest ce sl = true)
    (hM : W l Z n M' 0 (entryL (.ref k :: as) M'.2.2.1) [] H 0 0 Qc) (kk : ∀ v H', Qc v H' → WB b l Z n M pc' ls (v.toList ++ rest) H' (ce + M'.2.2.2.2.cells) (sl + M'.2.2.2.2.slots) Q) : WB b l Z n M pc ls st H ce sl Q := by
  obtain ⟨hd, rfl⟩ := hd
  subst hs
  intro p e s m args below meth c Cx T locs X hH hF
  obtain ⟨f1, f2, f3, f4⟩ := fits_ hf
  obtain ⟨cell, hc1, hc2⟩ := (hH.2 k _ hk rfl).1.cell
  have hpriv : s.PrivateAt M'.1 := Cond.privateMethod_at (mvP Cx.2.1 wp (args := #[]))
  obtain ⟨c2, k2, i1, i2, i3, i4, -⟩ := Cond.instantiable_spec (mvT (args := args) Cx.2.1 wk)
  have hni : k2.isInterface = false := by simp only [Bool.or_eq_false_iff] at i4; exact i4.1
  have hsel : (Cond.selects M'.1.cls M'.1 M'.1).before args s = true := selects_self_of_private i1 i2 hni hpriv (mvT Cx.2.1 wi) K.2.2.2.1
  obtain ⟨_, _, ⟨T', L', c', s'⟩, -, X', ⟨Lc, ⟨v0, H', hv, q1, q2, q3⟩, l1, l2, l3⟩, stp⟩ := X.privateBack Cx.1 (y := M'.1) Cx.2.2.1 (mvT Cx.2.1 w) (mvT Cx.2.1 wi) hsel hpriv (mvT Cx.2.1 K.1) K.2.2.2.1 (backOf (Q := RetQ Z n Qc) (W := wt rest) (W.metF hM K.2.2.1 hH []) Cx.2.1 K.1 K.2.1 f1 f2) (g := mkF m pc (loc n ls) (stk n (as.reverse ++ .ref k :: rest))) rfl
    ((size_loc n ls).trans (hz.trans Cx.2.2.2.2.1.symm)) (Steps.refl _) (a := n + k) hc1 hc2 (argsL := as.map (up n)) (rest := stk n rest) (fun sig h => by rw [List.length_map]; exact K.2.2.2.2 sig h) (by simp [stk, List.map_append, List.map_reverse, up]) (by rw [wt_up]; exact Nat.le_of_eq (Nat.zero_add _)) (hb Cx.2.2.2.1 hd) (fun _ _ => ⟨rfl, rfl, f3, f4⟩)
  dsimp only [Pt.U, Pt.locs, Pt.cells, Pt.slots] at X' l1 l2 l3 stp q2
  subst l1 l2 l3 hv
  obtain ⟨s₂, v, L, H'', g1, g2⟩ := kk v0 H' q1 p e s m args below meth c Cx T' _ X' q2 (Fr.app hF q3)
  refine ⟨s₂, v, L, H'', stp.trans ?_, g2⟩
  have : stk n (v0.toList ++ rest) = (v0.map (up n)).toList ++ stk n rest := by cases v0 <;> simp [stk]
  rw [this] at g1; exact g1
theorem W.init {M' : Meth} {i k : Nat} {as rest : List Value} {Qc : Option Value → AHeap → Prop} (hd : D M pc (.invokespecial i) 3 pc') (hnm : M'.1.name = "<init>") (hrt : M'.2.2.2.1 = none) (w : (Cond.methodLink M.1.cls i M'.1).before a0 Z = true) (wi : (Cond.instanceMethod M'.1).before a0 Z = true) (K : OkM a0 Z M' as.length) (hs : st = as.reverse ++ .ref k :: rest) (hz : ls.length = M.2.2.1) (hf : fitsRoom M M' rest ce sl = true)
    (hM : W l Z n M' 0 (entryL (.ref k :: as) M'.2.2.1) [] H 0 0 Qc) (kk : ∀ v H', Qc v H' → WB b l Z n M pc' ls (v.toList ++ rest) H' (ce + M'.2.2.2.2.cells) (sl + M'.2.2.2.2.slots) Q) : WB b l Z n M pc ls st H ce sl Q := by
  obtain ⟨hd, rfl⟩ := hd
  subst hs
  intro p e s m args below meth c Cx T locs X hH hF
  obtain ⟨f1, f2, f3, f4⟩ := fits_ hf
  have wc := K.1
  rw [hrt] at wc
  obtain ⟨_, _, ⟨T', L', c', s'⟩, -, X', ⟨Lc, ⟨v0, H', hv, q1, q2, q3⟩, l1, l2, l3⟩, stp⟩ := X.specialBack Cx.1 (y := M'.1) hnm Cx.2.2.1 (mvT Cx.2.1 w) (mvT Cx.2.1 wi) (mvT Cx.2.1 wc) K.2.2.2.1 (backOf (Q := RetQ Z n Qc) (W := wt rest) (W.metF hM K.2.2.1 hH []) Cx.2.1 K.1 K.2.1 f1 f2) (g := mkF m pc (loc n ls) (stk n (as.reverse ++ .ref k :: rest))) rfl
    ((size_loc n ls).trans (hz.trans Cx.2.2.2.2.1.symm)) (Steps.refl _) (a := n + k) (argsL := as.map (up n)) (rest := stk n rest) (fun sig h => by rw [List.length_map]; exact K.2.2.2.2 sig h) (by simp [stk, List.map_append, List.map_reverse, up]) (by rw [wt_up]; exact Nat.le_of_eq (Nat.zero_add _)) (hb Cx.2.2.2.1 hd) (fun _ _ => ⟨rfl, rfl, f3, f4⟩)
  dsimp only [Pt.U, Pt.locs, Pt.cells, Pt.slots] at X' l1 l2 l3 stp q2
  subst l1 l2 l3 hv
  obtain ⟨s₂, v, L, H'', g1, g2⟩ := kk v0 H' q1 p e s m args below meth c Cx T' _ X' q2 (Fr.app hF q3)
  refine ⟨s₂, v, L, H'', stp.trans ?_, g2⟩
  have : stk n (v0.toList ++ rest) = (v0.map (up n)).toList ++ stk n rest := by cases v0 <;> simp [stk]
  rw [this] at g1; exact g1
theorem W.initO {i k : Nat} {rest : List Value} (hd : D M pc (.invokespecial i) 3 pc') (w1 : (Cond.methodLink M.1.cls i Lib.objectInit).before a0 Z = true) (w2 : (Cond.instanceMethod Lib.objectInit).before a0 Z = true) (w3 : (Cond.code Lib.objectInit ⟨#[0xb1]⟩ 1 none).before a0 Z = true) (hz : ls.length = M.2.2.1) (hf : decide (1 ≤ M.2.2.2.2.frames) && decide (wt rest + 12 ≤ M.2.2.2.2.locals) = true)
    (kk : WB b l Z n M pc' ls rest H ce sl Q) : WB b l Z n M pc ls (.ref k :: rest) H ce sl Q := by
  obtain ⟨hd, rfl⟩ := hd
  simp only [Bool.and_eq_true, decide_eq_true_eq] at hf
  refine W.step (fun p e s m args below meth c Cx T locs X hH hF => ?_) kk
  obtain ⟨T', X', e', stp⟩ := RoadKit.initO X Cx.1 Cx.2.1 Cx.2.2.1 w1 w2 w3 rfl (g := mkF m pc (loc n ls) (stk n (.ref k :: rest))) rfl ((size_loc n ls).trans (hz.trans Cx.2.2.2.2.1.symm)) rfl (hb Cx.2.2.2.1 hd) hf.1 (W := wt rest) (by rw [wt_up]; exact Nat.le_of_eq (Nat.zero_add _)) hf.2
  exact ⟨T', locs, X', e' ▸ hH, hF, stp⟩
/-- from W of the whole method to the run's end, over the heap at the start -/
theorem W.start {as : List Value} (hW : WB b l Z Z.heap.size M 0 (entryL as M.2.2.1) [] [] 0 0 Q) (pn : plainName M.1.cls = true) (ws : List Jvm.Cond) :
    MetFree l M.1 (head1 (Cond.code M.1 M.2.1 M.2.2.1 M.2.2.2.1 :: ws) M.2.2.2.2) (fun a U => a = (as.map (up Z.heap.size)).toArray ∧ Z.Warmed39 U.vm ∧ U.heap = Z.heap) (fun _ _ _ _ _ => True)
      (fun _ U o U' => ∃ v L, o = .returned v ∧ (∃ v0 H', v = v0.map (up Z.heap.size) ∧ Q v0 H' ∧ HR Z Z.heap.size U'.heap H' ∧ Fr Z.heap.size L) ∧ EndR b U o U' L M.2.2.2.2.cells M.2.2.2.2.slots) :=
  W.met hW (plainFor_of_name pn) ⟨rfl, fun k o h _ => by cases h⟩ ws

/-- what it returns, and the heap it leaves -/
def Is (v : Option Value) (H1 : AHeap) : Option Value → AHeap → Prop := fun v' H' => v' = v ∧ H' = H1
theorem W.callsV {M' : Meth} {i : Nat} {as rest : List Value} {u : Value} {H1 : AHeap} (hd : D M pc (.invokestatic i) 3 pc') (w : (Cond.methodLink M.1.cls i M'.1).before a0 Z = true) (ws : (Cond.static M'.1).before a0 Z = true) (hM : W l Z n M' 0 (entryL as M'.2.2.1) [] H 0 0 (Is (some u) H1)) (K : OkM a0 Z M' as.length) (hs : st = as.reverse ++ rest) (hz : ls.length = M.2.2.1) (hf : fitsRoom M M' rest ce sl = true)
    (kk : WB b l Z n M pc' ls (u :: rest) H1 (ce + M'.2.2.2.2.cells) (sl + M'.2.2.2.2.slots) Q) : WB b l Z n M pc ls st H ce sl Q := W.calls hd w ws K hs hz hf hM fun v H' q => by obtain ⟨rfl, rfl⟩ := q; exact kk
theorem W.callsN {M' : Meth} {i : Nat} {as rest : List Value} {H1 : AHeap} (hd : D M pc (.invokestatic i) 3 pc') (w : (Cond.methodLink M.1.cls i M'.1).before a0 Z = true) (ws : (Cond.static M'.1).before a0 Z = true) (hM : W l Z n M' 0 (entryL as M'.2.2.1) [] H 0 0 (Is none H1)) (K : OkM a0 Z M' as.length) (hs : st = as.reverse ++ rest) (hz : ls.length = M.2.2.1) (hf : fitsRoom M M' rest ce sl = true)
    (kk : WB b l Z n M pc' ls rest H1 (ce + M'.2.2.2.2.cells) (sl + M'.2.2.2.2.slots) Q) : WB b l Z n M pc ls st H ce sl Q := W.calls hd w ws K hs hz hf hM fun v H' q => by obtain ⟨rfl, rfl⟩ := q; exact kk
theorem W.callvV {M' : Meth} {i k : Nat} {C : String} {fs : List (Key × Value)} {as rest : List Value} {u : Value} {H1 : AHeap} (hd : D M pc (.invokevirtual i) 3 pc') (w : (Cond.methodLink M.1.cls i M'.1).before a0 Z = true) (wd : (Cond.declares M'.1).before a0 Z = true) (wi : (Cond.instanceMethod M'.1).before a0 Z = true) (wsel : (Cond.selects C M'.1 M'.1).before a0 Z = true) (hM : W l Z n M' 0 (entryL (.ref k :: as) M'.2.2.1) [] H 0 0 (Is (some u) H1)) (K : OkM a0 Z M' as.length) (hk : H[k]? = some (.inl (C, fs))) (hs : st = as.reverse ++ .ref k :: rest) (hz : ls.length = M.2.2.1) (hf : fitsRoom M M' rest ce sl = true)
    (kk : WB b l Z n M pc' ls (u :: rest) H1 (ce + M'.2.2.2.2.cells) (sl + M'.2.2.2.2.slots) Q) : WB b l Z n M pc ls st H ce sl Q := W.callv hd w wd wi wsel K hk hs hz hf hM fun v H' q => by obtain ⟨rfl, rfl⟩ := q; exact kk
theorem W.callvN {M' : Meth} {i k : Nat} {C : String} {fs : List (Key × Value)} {as rest : List Value} {H1 : AHeap} (hd : D M pc (.invokevirtual i) 3 pc') (w : (Cond.methodLink M.1.cls i M'.1).before a0 Z = true) (wd : (Cond.declares M'.1).before a0 Z = true) (wi : (Cond.instanceMethod M'.1).before a0 Z = true) (wsel : (Cond.selects C M'.1 M'.1).before a0 Z = true) (hM : W l Z n M' 0 (entryL (.ref k :: as) M'.2.2.1) [] H 0 0 (Is none H1)) (K : OkM a0 Z M' as.length) (hk : H[k]? = some (.inl (C, fs))) (hs : st = as.reverse ++ .ref k :: rest) (hz : ls.length = M.2.2.1) (hf : fitsRoom M M' rest ce sl = true)
    (kk : WB b l Z n M pc' ls rest H1 (ce + M'.2.2.2.2.cells) (sl + M'.2.2.2.2.slots) Q) : WB b l Z n M pc ls st H ce sl Q := W.callv hd w wd wi wsel K hk hs hz hf hM fun v H' q => by obtain ⟨rfl, rfl⟩ := q; exact kk
theorem W.callpV {M' : Meth} {i k kk0 : Nat} {fs : List (Key × Value)} {as rest : List Value} {u : Value} {H1 : AHeap} (hd : D M pc (.invokevirtual i) 3 pc') (w : (Cond.methodLink M.1.cls i M'.1).before a0 Z = true) (wi : (Cond.instanceMethod M'.1).before a0 Z = true) (wp : (Cond.privateMethod M'.1).before a0 Z = true) (wk : (Cond.instantiable M'.1.cls kk0).before a0 Z = true) (hM : W l Z n M' 0 (entryL (.ref k :: as) M'.2.2.1) [] H 0 0 (Is (some u) H1)) (K : OkM a0 Z M' as.length) (hk : H[k]? = some (.inl (M'.1.cls, fs))) (hs : st = as.reverse ++ .ref k :: rest) (hz : ls.length = M.2.2.1) (hf : fitsRoom M M' rest ce sl = true)
    (kk : WB b l Z n M pc' ls (u :: rest) H1 (ce + M'.2.2.2.2.cells) (sl + M'.2.2.2.2.slots) Q) : WB b l Z n M pc ls st H ce sl Q := W.callp hd w wi wp wk K hk hs hz hf hM fun v H' q => by obtain ⟨rfl, rfl⟩ := q; exact kk
theorem W.callpN {M' : Meth} {i k kk0 : Nat} {fs : List (Key × Value)} {as rest : List Value} {H1 : AHeap} (hd : D M pc (.invokevirtual i) 3 pc') (w : (Cond.methodLink M.1.cls i M'.1).before a0 Z = true) (wi : (Cond.instanceMethod M'.1).before a0 Z = true) (wp : (Cond.privateMethod M'.1).before a0 Z = true) (wk : (Cond.instantiable M'.1.cls kk0).before a0 Z = true) (hM : W l Z n M' 0 (entryL (.ref k :: as) M'.2.2.1) [] H 0 0 (Is none H1)) (K : OkM a0 Z M' as.length) (hk : H[k]? = some (.inl (M'.1.cls, fs))) (hs : st = as.reverse ++ .ref k :: rest) (hz : ls.length = M.2.2.1) (hf : fitsRoom M M' rest ce sl = true)
    (kk : WB b l Z n M pc' ls rest H1 (ce + M'.2.2.2.2.cells) (sl + M'.2.2.2.2.slots) Q) : WB b l Z n M pc ls st H ce sl Q := W.callp hd w wi wp wk K hk hs hz hf hM fun v H' q => by obtain ⟨rfl, rfl⟩ := q; exact kk
theorem W.initN {M' : Meth} {i k : Nat} {as rest : List Value} {H1 : AHeap} (hd : D M pc (.invokespecial i) 3 pc') (hnm : M'.1.name = "<init>") (hrt : M'.2.2.2.1 = none) (w : (Cond.methodLink M.1.cls i M'.1).before a0 Z = true) (wi : (Cond.instanceMethod M'.1).before a0 Z = true) (hM : W l Z n M' 0 (entryL (.ref k :: as) M'.2.2.1) [] H 0 0 (Is none H1)) (K : OkM a0 Z M' as.length) (hs : st = as.reverse ++ .ref k :: rest) (hz : ls.length = M.2.2.1) (hf : fitsRoom M M' rest ce sl = true)
    (kk : WB b l Z n M pc' ls rest H1 (ce + M'.2.2.2.2.cells) (sl + M'.2.2.2.2.slots) Q) : WB b l Z n M pc ls st H ce sl Q := W.init hd hnm hrt w wi K hs hz hf hM fun v H' q => by obtain ⟨rfl, rfl⟩ := q; exact kk
theorem W.callpX {M' : Meth} {i k kk0 : Nat} {fs : List (Key × Value)} {as rest : List Value} {P : Value → AHeap → Prop} (hd : D M pc (.invokevirtual i) 3 pc') (w : (Cond.methodLink M.1.cls i M'.1).before a0 Z = true) (wi : (Cond.instanceMethod M'.1).before a0 Z = true) (wp : (Cond.privateMethod M'.1).before a0 Z = true) (wk : (Cond.instantiable M'.1.cls kk0).before a0 Z = true) (hM : W l Z n M' 0 (entryL (.ref k :: as) M'.2.2.1) [] H 0 0 (fun v H' => ∃ u, v = some u ∧ P u H')) (K : OkM a0 Z M' as.length) (hk : H[k]? = some (.inl (M'.1.cls, fs))) (hs : st = as.reverse ++ .ref k :: rest) (hz : ls.length = M.2.2.1) (hf : fitsRoom M M' rest ce sl = true)
    (kk : ∀ u H', P u H' → WB b l Z n M pc' ls (u :: rest) H' (ce + M'.2.2.2.2.cells) (sl + M'.2.2.2.2.slots) Q) : WB b l Z n M pc ls st H ce sl Q := W.callp hd w wi wp wk K hk hs hz hf hM fun v H' q => by obtain ⟨u, rfl, q⟩ := q; exact kk u H' q
theorem W.callsX {M' : Meth} {i : Nat} {as rest : List Value} {P : Value → AHeap → Prop} (hd : D M pc (.invokestatic i) 3 pc') (w : (Cond.methodLink M.1.cls i M'.1).before a0 Z = true) (ws : (Cond.static M'.1).before a0 Z = true) (hM : W l Z n M' 0 (entryL as M'.2.2.1) [] H 0 0 (fun v H' => ∃ u, v = some u ∧ P u H')) (K : OkM a0 Z M' as.length) (hs : st = as.reverse ++ rest) (hz : ls.length = M.2.2.1) (hf : fitsRoom M M' rest ce sl = true)
    (kk : ∀ u H', P u H' → WB b l Z n M pc' ls (u :: rest) H' (ce + M'.2.2.2.2.cells) (sl + M'.2.2.2.2.slots) Q) : WB b l Z n M pc ls st H ce sl Q := W.calls hd w ws K hs hz hf hM fun v H' q => by obtain ⟨u, rfl, q⟩ := q; exact kk u H' q
theorem W.callsY {M' : Meth} {i : Nat} {as rest : List Value} {P : AHeap → Prop} (hd : D M pc (.invokestatic i) 3 pc') (w : (Cond.methodLink M.1.cls i M'.1).before a0 Z = true) (ws : (Cond.static M'.1).before a0 Z = true) (hM : W l Z n M' 0 (entryL as M'.2.2.1) [] H 0 0 (fun v H' => v = none ∧ P H')) (K : OkM a0 Z M' as.length) (hs : st = as.reverse ++ rest) (hz : ls.length = M.2.2.1) (hf : fitsRoom M M' rest ce sl = true)
    (kk : ∀ H', P H' → WB b l Z n M pc' ls rest H' (ce + M'.2.2.2.2.cells) (sl + M'.2.2.2.2.slots) Q) : WB b l Z n M pc ls st H ce sl Q := W.calls hd w ws K hs hz hf hM fun v H' q => by obtain ⟨rfl, q⟩ := q; exact kk H' q
theorem W.callvX {M' : Meth} {i k : Nat} {C : String} {fs : List (Key × Value)} {as rest : List Value} {P : Value → AHeap → Prop} (hd : D M pc (.invokevirtual i) 3 pc') (w : (Cond.methodLink M.1.cls i M'.1).before a0 Z = true) (wd : (Cond.declares M'.1).before a0 Z = true) (wi : (Cond.instanceMethod M'.1).before a0 Z = true) (wsel : (Cond.selects C M'.1 M'.1).before a0 Z = true) (hM : W l Z n M' 0 (entryL (.ref k :: as) M'.2.2.1) [] H 0 0 (fun v H' => ∃ u, v = some u ∧ P u H')) (K : OkM a0 Z M' as.length) (hk : H[k]? = some (.inl (C, fs))) (hs : st = as.reverse ++ .ref k :: rest) (hz : ls.length = M.2.2.1) (hf : fitsRoom M M' rest ce sl = true)
    (kk : ∀ u H', P u H' → WB b l Z n M pc' ls (u :: rest) H' (ce + M'.2.2.2.2.cells) (sl + M'.2.2.2.2.slots) Q) : WB b l Z n M pc ls st H ce sl Q := W.callv hd w wd wi wsel K hk hs hz hf hM fun v H' q => by obtain ⟨u, rfl, q⟩ := q; exact kk u H' q
theorem W.callvY {M' : Meth} {i k : Nat} {C : String} {fs : List (Key × Value)} {as rest : List Value} {P : AHeap → Prop} (hd : D M pc (.invokevirtual i) 3 pc') (w : (Cond.methodLink M.1.cls i M'.1).before a0 Z = true) (wd : (Cond.declares M'.1).before a0 Z = true) (wi : (Cond.instanceMethod M'.1).before a0 Z = true) (wsel : (Cond.selects C M'.1 M'.1).before a0 Z = true) (hM : W l Z n M' 0 (entryL (.ref k :: as) M'.2.2.1) [] H 0 0 (fun v H' => v = none ∧ P H')) (K : OkM a0 Z M' as.length) (hk : H[k]? = some (.inl (C, fs))) (hs : st = as.reverse ++ .ref k :: rest) (hz : ls.length = M.2.2.1) (hf : fitsRoom M M' rest ce sl = true)
    (kk : ∀ H', P H' → WB b l Z n M pc' ls rest H' (ce + M'.2.2.2.2.cells) (sl + M'.2.2.2.2.slots) Q) : WB b l Z n M pc ls st H ce sl Q := W.callv hd w wd wi wsel K hk hs hz hf hM fun v H' q => by obtain ⟨rfl, q⟩ := q; exact kk H' q
/-- ldc of a String: behind it the walk goes on over the tables that the constant left -/
theorem W.ldcStr {i nn : Nat} {text : String} (hd : D M pc (.ldc i) 2 pc') (w : (Cond.stringLink M.1.cls i text).before a0 Z = true) (wS : ∀ a ∈ Bundle.stringAtoms, a.before a0 Z = true) (hn : 4 * text.toList.length ≤ nn) (hbig : nn ≤ 536870912) (hc : ce + 2 ≤ M.2.2.2.2.cells) (hl : sl + (nn + 4) ≤ M.2.2.2.2.slots)
    (kk : ∀ (a : Addr) (d : Nat), WB false l Z n M pc' ls (.retAddr a :: st) (H ++ List.replicate d junk) (ce + 2) (sl + (nn + 4)) (fun v H' => Q v H' ∧ H.length + d ≤ H'.length)) : WB true l Z n M pc ls st H ce sl Q := by
  obtain ⟨hd, rfl⟩ := hd
  intro p e s m args below meth c C T locs X hH hF
  have X0 : Stand p l e M.2.2.2.2 (s.setVm s.vm) m args below meth c T locs ce sl := X
  obtain ⟨a, T', h', k1, X', e', E, hS', hk1, hZ', hown', stp⟩ := ldcS (Z := Z) (a0 := a0) X0 C.1 C.2.1 (own := M.1.cls) (text := text) (index := i) C.2.2.1 w wS rfl (k0 := 0) ((State.WarmedH.refl s).since 0) (Nat.zero_le _) (g := mkF m pc (loc n ls) (stk n st)) rfl (hb C.2.2.2.1 hd) hn hbig hc hl
  subst e'
  have hH' : HR Z n T'.heap (H ++ List.replicate (T'.heap.size - T.heap.size) junk) := by
    have h1 := E.1
    refine ⟨by rw [List.length_append, List.length_replicate]; have := hH.1; omega, fun k o hk hJ => ?_⟩
    rw [List.getElem?_append] at hk
    split at hk
    · exact (hH.2 k o hk hJ).ext E
    · have := List.eq_of_mem_replicate (List.mem_of_getElem? hk)
      rw [this] at hJ; cases hJ
  obtain ⟨s₂, v, L, H'', g1, g2, g3, ⟨g4, g4'⟩, g5, g6, g7⟩ := kk a (T'.heap.size - T.heap.size) p e (s.setVm T'.vm) m args below meth c ⟨C.1, hZ', hown', C.2.2.2⟩ T' locs X' hH' hF
  have hsz : k1 ≤ s₂.heap.size := by have h1 := E.1; have h2 := hH.1; have h3 := g5.1; omega
  obtain ⟨q1, q2, q3⟩ := hS'.ended (U := s₂) g7.2.1 hsz g7.2.2
  exact ⟨s₂, v, L, H'', stp _ g1, g2, g3, g4, g5, g6, g7.1, q1, q2, q3⟩
theorem nar_ref (n : Nat) {v : Value} {c : String} (h : v.isRef = true) : narrow (.object c) (up n v) = up n v := by
  cases v <;> first | rfl | (simp [Value.isRef] at h)
theorem fits_ref' (n : Nat) {v : Value} {c : String} (h : v.isRef = true) : fits (.object c) (up n v) = true := by
  cases v <;> first | rfl | (simp [Value.isRef] at h)
theorem rfn_of {v : Value} (h : v.isRef = true) : rfn v = true := by cases v <;> first | rfl | (simp [Value.isRef] at h)
end Rules
/-! bits of ints and longs -/
theorem bx32 {a b : Int32} (h : ∀ i, i < 32 → a.toBitVec.getLsbD i = b.toBitVec.getLsbD i) : a = b := Int32.toBitVec_inj.mp (BitVec.eq_of_getLsbD_eq h)
theorem bx64 {a b : Int64} (h : ∀ i, i < 64 → a.toBitVec.getLsbD i = b.toBitVec.getLsbD i) : a = b := Int64.toBitVec_inj.mp (BitVec.eq_of_getLsbD_eq h)
theorem sm32 : ∀ m : Fin 32, ((BitVec.ofNat 32 m.1).smod 32).toNat = m.1 := by decide
theorem sm64 : ∀ m : Fin 64, ((BitVec.ofNat 64 m.1).smod 64).toNat = m.1 := by decide
theorem amt32 {k : Int32} {m : Nat} (hk : k.toBitVec.toNat = m) (hm : m < 32) : (k.toBitVec.smod 32).toNat = m := by
  have : k.toBitVec = BitVec.ofNat 32 m := BitVec.eq_of_toNat_eq (by rw [hk, BitVec.toNat_ofNat]; omega)
  rw [this]; exact sm32 ⟨m, hm⟩
theorem amt64 {k : Int64} {m : Nat} (hk : k.toBitVec.toNat = m) (hm : m < 64) : (k.toBitVec.smod 64).toNat = m := by
  have : k.toBitVec = BitVec.ofNat 64 m := BitVec.eq_of_toNat_eq (by rw [hk, BitVec.toNat_ofNat]; omega)
  rw [this]; exact sm64 ⟨m, hm⟩
theorem shl_bit {x k : Int32} {m : Nat} (hk : k.toBitVec.toNat = m) (hm : m < 32) (i : Nat) : (x <<< k).toBitVec.getLsbD i = (decide (i < 32) && !decide (i < m) && x.toBitVec.getLsbD (i - m)) := by
  show (x.toBitVec <<< (k.toBitVec.smod 32)).getLsbD i = _
  rw [BitVec.shiftLeft_eq', amt32 hk hm, BitVec.getLsbD_shiftLeft]
theorem shlL_bit {x k : Int64} {m : Nat} (hk : k.toBitVec.toNat = m) (hm : m < 64) (i : Nat) : (x <<< k).toBitVec.getLsbD i = (decide (i < 64) && !decide (i < m) && x.toBitVec.getLsbD (i - m)) := by
  show (x.toBitVec <<< (k.toBitVec.smod 64)).getLsbD i = _
  rw [BitVec.shiftLeft_eq', amt64 hk hm, BitVec.getLsbD_shiftLeft]
theorem ushr_bit {v k : Int32} {m : Nat} (hk : (k &&& 31).toBitVec.toNat = m) (i : Nat) : (XT.ushr v k).toBitVec.getLsbD i = v.toBitVec.getLsbD (m + i) := by
  have hm : m < 32 := by
    subst hk
    have : (k &&& 31).toBitVec = k.toBitVec &&& 31#32 := rfl
    rw [this, BitVec.toNat_and]
    exact Nat.lt_of_le_of_lt Nat.and_le_right (by decide)
  show (v.toBitVec >>> ((k &&& 31).toBitVec % 32)).getLsbD i = _
  have h2 : ((k &&& 31).toBitVec % 32).toNat = m := by rw [BitVec.toNat_umod, hk]; exact Nat.mod_eq_of_lt hm
  rw [BitVec.ushiftRight_eq', h2, BitVec.getLsbD_ushiftRight]
theorem ushrL_bit {v : Int64} {k : Int32} {m : Nat} (hk : (k.toInt64 &&& 63).toBitVec.toNat = m) (i : Nat) : (XT.ushrL v k).toBitVec.getLsbD i = v.toBitVec.getLsbD (m + i) := by
  have hm : m < 64 := by
    subst hk
    have : (k.toInt64 &&& 63).toBitVec = k.toInt64.toBitVec &&& 63#64 := rfl
    rw [this, BitVec.toNat_and]
    exact Nat.lt_of_le_of_lt Nat.and_le_right (by decide)
  show (v.toBitVec >>> ((k.toInt64 &&& 63).toBitVec % 64)).getLsbD i = _
  have h2 : ((k.toInt64 &&& 63).toBitVec % 64).toNat = m := by rw [BitVec.toNat_umod, hk]; exact Nat.mod_eq_of_lt hm
  rw [BitVec.ushiftRight_eq', h2, BitVec.getLsbD_ushiftRight]
theorem byte_bit (x : Int32) (i : Nat) : (x.toInt8.toInt32).toBitVec.getLsbD i = (decide (i < 32) && x.toBitVec.getLsbD (if i < 8 then i else 7)) := by
  show ((x.toBitVec.signExtend 8).signExtend 32).getLsbD i = _
  rw [BitVec.getLsbD_signExtend, BitVec.msb_eq_getLsbD_last, BitVec.getLsbD_signExtend, BitVec.getLsbD_signExtend]
  by_cases h : i < 8
  · simp [h, show i < 32 by omega]
  · simp [h]
theorem and_bit (x y : Int32) (i : Nat) : (x &&& y).toBitVec.getLsbD i = (x.toBitVec.getLsbD i && y.toBitVec.getLsbD i) := BitVec.getLsbD_and
theorem or_bit (x y : Int32) (i : Nat) : (x ||| y).toBitVec.getLsbD i = (x.toBitVec.getLsbD i || y.toBitVec.getLsbD i) := BitVec.getLsbD_or
theorem andL_bit (x y : Int64) (i : Nat) : (x &&& y).toBitVec.getLsbD i = (x.toBitVec.getLsbD i && y.toBitVec.getLsbD i) := BitVec.getLsbD_and
theorem orL_bit (x y : Int64) (i : Nat) : (x ||| y).toBitVec.getLsbD i = (x.toBitVec.getLsbD i || y.toBitVec.getLsbD i) := BitVec.getLsbD_or
theorem i2l_bit (x : Int32) (i : Nat) : x.toInt64.toBitVec.getLsbD i = (decide (i < 64) && x.toBitVec.getLsbD (if i < 32 then i else 31)) := by
  show (x.toBitVec.signExtend 64).getLsbD i = _
  rw [BitVec.getLsbD_signExtend, BitVec.msb_eq_getLsbD_last]
  by_cases h : i < 32 <;> simp [h]
theorem l2i_bit (x : Int64) (i : Nat) : x.toInt32.toBitVec.getLsbD i = (decide (i < 32) && x.toBitVec.getLsbD i) := by
  show (x.toBitVec.signExtend 32).getLsbD i = _
  rw [BitVec.getLsbD_signExtend]
  by_cases h : i < 32
  · simp [h, show i < 64 by omega]
  · simp [h]
theorem lit_bit (m i : Nat) : (Int32.ofNat m).toBitVec.getLsbD i = (decide (i < 32) && m.testBit i) := by
  show (BitVec.ofNat 32 m).getLsbD i = _
  rw [BitVec.getLsbD_ofNat]
theorem litL_bit (m i : Nat) : (Int64.ofNat m).toBitVec.getLsbD i = (decide (i < 64) && m.testBit i) := by
  show (BitVec.ofNat 64 m).getLsbD i = _
  rw [BitVec.getLsbD_ofNat]
theorem m255 (i : Nat) : (255 : Int32).toBitVec.getLsbD i = decide (i < 8) := by
  have : (255 : Int32) = Int32.ofNat (2 ^ 8 - 1) := rfl
  rw [this, lit_bit, Nat.testBit_two_pow_sub_one]
  by_cases h : i < 8 <;> simp [h]; omega
theorem and_nat (x y : Int32) (m : Nat) (hy : y.toBitVec.toNat = m) : (x &&& y).toBitVec.toNat ≤ m := by
  show (x.toBitVec &&& y.toBitVec).toNat ≤ m
  rw [BitVec.toNat_and, hy]; exact Nat.and_le_right
theorem of_nat32 {x : Int32} {m : Nat} (h : x.toBitVec.toNat = m) : x = Int32.ofNat m := by
  apply Int32.toBitVec_inj.mp
  apply BitVec.eq_of_toNat_eq
  show _ = (BitVec.ofNat 32 m).toNat
  rw [BitVec.toNat_ofNat, h]
  have := x.toBitVec.isLt
  omega
theorem and_three (x : Int32) : x &&& 3 = 0 ∨ x &&& 3 = 1 ∨ x &&& 3 = 2 ∨ x &&& 3 = 3 := by
  have h := and_nat x 3 3 rfl
  have hc : (x &&& 3).toBitVec.toNat = 0 ∨ (x &&& 3).toBitVec.toNat = 1 ∨ (x &&& 3).toBitVec.toNat = 2 ∨ (x &&& 3).toBitVec.toNat = 3 := by omega
  rcases hc with q | q | q | q
  · exact Or.inl (of_nat32 q)
  · exact Or.inr (Or.inl (of_nat32 q))
  · exact Or.inr (Or.inr (Or.inl (of_nat32 q)))
  · exact Or.inr (Or.inr (Or.inr (of_nat32 q)))
theorem nar_byte (y : Int32) : nar .byte (y.toInt8.toInt32) = y.toInt8.toInt32 := by
  show y.toInt8.toInt32.toInt8.toInt32 = y.toInt8.toInt32
  simp
theorem ushr_zero (x : Int32) (k : Int32) (hk : (k &&& 31).toBitVec.toNat = 0) : XT.ushr x k = x := bx32 fun i _ => by rw [ushr_bit hk, Nat.zero_add]
theorem rem_nat (x d : Int32) (m : Nat) (hx : 0 ≤ x.toInt) (hd : d.toInt = m) (hm : 0 < m) (hb : m < 2 ^ 31) : ∃ k, k < m ∧ x % d = Int32.ofNat k := by
  have h1 : (x % d).toInt = x.toInt % m := by rw [Int32.toInt_mod, hd, Int.tmod_eq_emod_of_nonneg hx]
  have h2 := Int.emod_nonneg x.toInt (show (m : Int) ≠ 0 by omega)
  have h3 := Int.emod_lt_of_pos x.toInt (show (0 : Int) < m by omega)
  refine ⟨(x.toInt % m).toNat, by omega, ?_⟩
  apply Int32.toInt_inj.mp
  rw [h1, Int32.toInt_ofNat_of_lt (by omega)]
  omega
end Jvm.OwnW
namespace Jvm.Pilot.@@N@@
open Jvm Jvm.ClassFile Sem Op Lib Jvm.Free Jvm.Stand Jvm.LawKit Jvm.RoadKit Bundle Jvm.Pilot.@@N@@.Jvm.D Jvm.OwnW

theorem wd {c : Jvm.Cond} (k : Nat) (h : tables_1[k]? = some c) : c ∈ tables_1 := List.mem_of_getElem? h
def m0 : Meth := (x, code, maxLocals, ret, room_1)
def m1 : Meth := (⟨"boundwright/search/Reads", "<init>", "(I)V"⟩, prog_65_method_1_code, 2, none, { frames := 1, cells := 2, slots := 8, locals := 20 })
def m3 : Meth := (⟨"boundwright/search/Reads", "record", "(I)Z"⟩, prog_65_method_2_code, 2, some .boolean, { frames := 0, cells := 0, slots := 0, locals := 0 })
def m4 : Meth := (⟨"boundwright/search/ReadsRecordPinLaw", "step", "([I[II)Z"⟩, method_2_code, 4, some .boolean, { frames := 0, cells := 0, slots := 0, locals := 0 })
def m5 : Meth := (⟨"boundwright/search/Reads", "size", "()I"⟩, prog_65_method_3_code, 1, some .int, { frames := 0, cells := 0, slots := 0, locals := 0 })
def m6 : Meth := (⟨"boundwright/search/Reads", "order", "()[I"⟩, prog_65_method_5_code, 1, some (.array .int), { frames := 0, cells := 0, slots := 0, locals := 0 })
def m7 : Meth := (⟨"boundwright/search/ReadsRecordPinLaw", "orderOk", "([I[II)Z"⟩, method_4_code, 3, some .boolean, { frames := 0, cells := 0, slots := 0, locals := 0 })
def m8 : Meth := (⟨"boundwright/search/Reads", "clear", "()V"⟩, prog_65_method_6_code, 1, none, { frames := 0, cells := 0, slots := 0, locals := 0 })
def m9 : Meth := (⟨"boundwright/search/ReadsRecordPinLaw", "reset", "([I)V"⟩, method_3_code, 1, none, { frames := 0, cells := 0, slots := 0, locals := 0 })
theorem d0_0 : D m0 0 (.iload_n 0) 1 1 := ⟨by decide +kernel, rfl⟩
theorem d0_1 : D m0 1 (.iconst 3) 1 2 := ⟨by decide +kernel, rfl⟩
theorem d0_2 : D m0 2 (.iand) 1 3 := ⟨by decide +kernel, rfl⟩
theorem d0_3 : D m0 3 (.iconst 1) 1 4 := ⟨by decide +kernel, rfl⟩
theorem d0_4 : D m0 4 (.iadd) 1 5 := ⟨by decide +kernel, rfl⟩
theorem d0_5 : D m0 5 (.istore 5) 2 7 := ⟨by decide +kernel, rfl⟩
theorem d0_7 : D m0 7 (.iload_n 0) 1 8 := ⟨by decide +kernel, rfl⟩
theorem d0_8 : D m0 8 (.iconst 2) 1 9 := ⟨by decide +kernel, rfl⟩
theorem d0_9 : D m0 9 (.iushr) 1 10 := ⟨by decide +kernel, rfl⟩
theorem d0_10 : D m0 10 (.iconst 3) 1 11 := ⟨by decide +kernel, rfl⟩
theorem d0_11 : D m0 11 (.iand) 1 12 := ⟨by decide +kernel, rfl⟩
theorem d0_12 : D m0 12 (.istore 6) 2 14 := ⟨by decide +kernel, rfl⟩
theorem d0_14 : D m0 14 (.iload_n 1) 1 15 := ⟨by decide +kernel, rfl⟩
theorem d0_15 : D m0 15 (.ldc 7) 2 17 := ⟨by decide +kernel, rfl⟩
theorem d0_17 : D m0 17 (.iand) 1 18 := ⟨by decide +kernel, rfl⟩
theorem d0_18 : D m0 18 (.iload 5) 2 20 := ⟨by decide +kernel, rfl⟩
theorem d0_20 : D m0 20 (.irem) 1 21 := ⟨by decide +kernel, rfl⟩
theorem d0_21 : D m0 21 (.istore 7) 2 23 := ⟨by decide +kernel, rfl⟩
theorem d0_23 : D m0 23 (.iload_n 2) 1 24 := ⟨by decide +kernel, rfl⟩
theorem d0_24 : D m0 24 (.ldc 7) 2 26 := ⟨by decide +kernel, rfl⟩
theorem d0_26 : D m0 26 (.iand) 1 27 := ⟨by decide +kernel, rfl⟩
theorem d0_27 : D m0 27 (.iload 5) 2 29 := ⟨by decide +kernel, rfl⟩
theorem d0_29 : D m0 29 (.irem) 1 30 := ⟨by decide +kernel, rfl⟩
theorem d0_30 : D m0 30 (.istore 8) 2 32 := ⟨by decide +kernel, rfl⟩
theorem d0_32 : D m0 32 (.iload_n 3) 1 33 := ⟨by decide +kernel, rfl⟩
theorem d0_33 : D m0 33 (.ldc 7) 2 35 := ⟨by decide +kernel, rfl⟩
theorem d0_35 : D m0 35 (.iand) 1 36 := ⟨by decide +kernel, rfl⟩
theorem d0_36 : D m0 36 (.iload 5) 2 38 := ⟨by decide +kernel, rfl⟩
theorem d0_38 : D m0 38 (.irem) 1 39 := ⟨by decide +kernel, rfl⟩
theorem d0_39 : D m0 39 (.istore 9) 2 41 := ⟨by decide +kernel, rfl⟩
theorem d0_41 : D m0 41 (.iload 4) 2 43 := ⟨by decide +kernel, rfl⟩
theorem d0_43 : D m0 43 (.ldc 7) 2 45 := ⟨by decide +kernel, rfl⟩
theorem d0_45 : D m0 45 (.iand) 1 46 := ⟨by decide +kernel, rfl⟩
theorem d0_46 : D m0 46 (.iload 5) 2 48 := ⟨by decide +kernel, rfl⟩
theorem d0_48 : D m0 48 (.irem) 1 49 := ⟨by decide +kernel, rfl⟩
theorem d0_49 : D m0 49 (.istore 10) 2 51 := ⟨by decide +kernel, rfl⟩
theorem d0_51 : D m0 51 (.new 8) 3 54 := ⟨by decide +kernel, rfl⟩
theorem d0_54 : D m0 54 (.dup) 1 55 := ⟨by decide +kernel, rfl⟩
theorem d0_55 : D m0 55 (.iload 5) 2 57 := ⟨by decide +kernel, rfl⟩
theorem d0_57 : D m0 57 (.invokespecial 10) 3 60 := ⟨by decide +kernel, rfl⟩
theorem d0_60 : D m0 60 (.astore 11) 2 62 := ⟨by decide +kernel, rfl⟩
theorem d0_62 : D m0 62 (.iconst 2) 1 63 := ⟨by decide +kernel, rfl⟩
theorem d0_63 : D m0 63 (.newarray .int) 2 65 := ⟨by decide +kernel, rfl⟩
theorem d0_65 : D m0 65 (.astore 12) 2 67 := ⟨by decide +kernel, rfl⟩
theorem d0_67 : D m0 67 (.iconst 4) 1 68 := ⟨by decide +kernel, rfl⟩
theorem d0_68 : D m0 68 (.newarray .int) 2 70 := ⟨by decide +kernel, rfl⟩
theorem d0_70 : D m0 70 (.astore 13) 2 72 := ⟨by decide +kernel, rfl⟩
theorem d0_72 : D m0 72 (.iconst 1) 1 73 := ⟨by decide +kernel, rfl⟩
theorem d0_73 : D m0 73 (.istore 14) 2 75 := ⟨by decide +kernel, rfl⟩
theorem d0_75 : D m0 75 (.aload 11) 2 77 := ⟨by decide +kernel, rfl⟩
theorem d0_77 : D m0 77 (.iload 7) 2 79 := ⟨by decide +kernel, rfl⟩
theorem d0_79 : D m0 79 (.invokevirtual 13) 3 82 := ⟨by decide +kernel, rfl⟩
theorem d0_82 : D m0 82 (.istore 15) 2 84 := ⟨by decide +kernel, rfl⟩
theorem d0_84 : D m0 84 (.aload 12) 2 86 := ⟨by decide +kernel, rfl⟩
theorem d0_86 : D m0 86 (.aload 13) 2 88 := ⟨by decide +kernel, rfl⟩
theorem d0_88 : D m0 88 (.iload 7) 2 90 := ⟨by decide +kernel, rfl⟩
theorem d0_90 : D m0 90 (.invokestatic 17) 3 93 := ⟨by decide +kernel, rfl⟩
theorem d0_93 : D m0 93 (.istore 16) 2 95 := ⟨by decide +kernel, rfl⟩
theorem d0_95 : D m0 95 (.iload 14) 2 97 := ⟨by decide +kernel, rfl⟩
theorem d0_97 : DB m0 97 (.ifCond .eq 14) 14 100 111 := ⟨by decide +kernel, rfl, by decide, by decide⟩
theorem d0_100 : D m0 100 (.iload 15) 2 102 := ⟨by decide +kernel, rfl⟩
theorem d0_102 : D m0 102 (.iload 16) 2 104 := ⟨by decide +kernel, rfl⟩
theorem d0_104 : DB m0 104 (.if_icmp .ne 7) 7 107 111 := ⟨by decide +kernel, rfl, by decide, by decide⟩
theorem d0_107 : D m0 107 (.iconst 1) 1 108 := ⟨by decide +kernel, rfl⟩
theorem d0_108 : DB m0 108 (.goto 4) 4 111 112 := ⟨by decide +kernel, rfl, by decide, by decide⟩
theorem d0_111 : D m0 111 (.iconst 0) 1 112 := ⟨by decide +kernel, rfl⟩
theorem d0_112 : D m0 112 (.istore 14) 2 114 := ⟨by decide +kernel, rfl⟩
theorem d0_114 : D m0 114 (.iload 6) 2 116 := ⟨by decide +kernel, rfl⟩
theorem d0_116 : D m0 116 (.iconst 1) 1 117 := ⟨by decide +kernel, rfl⟩
theorem d0_117 : DB m0 117 (.if_icmp .ne 13) 13 120 130 := ⟨by decide +kernel, rfl, by decide, by decide⟩
theorem d0_120 : D m0 120 (.aload 11) 2 122 := ⟨by decide +kernel, rfl⟩
theorem d0_122 : D m0 122 (.invokevirtual 23) 3 125 := ⟨by decide +kernel, rfl⟩
theorem d0_125 : D m0 125 (.aload 12) 2 127 := ⟨by decide +kernel, rfl⟩
theorem d0_127 : D m0 127 (.invokestatic 26) 3 130 := ⟨by decide +kernel, rfl⟩
theorem d0_130 : D m0 130 (.aload 11) 2 132 := ⟨by decide +kernel, rfl⟩
theorem d0_132 : D m0 132 (.iload 8) 2 134 := ⟨by decide +kernel, rfl⟩
theorem d0_134 : D m0 134 (.invokevirtual 13) 3 137 := ⟨by decide +kernel, rfl⟩
theorem d0_137 : D m0 137 (.istore 17) 2 139 := ⟨by decide +kernel, rfl⟩
theorem d0_139 : D m0 139 (.aload 12) 2 141 := ⟨by decide +kernel, rfl⟩
theorem d0_141 : D m0 141 (.aload 13) 2 143 := ⟨by decide +kernel, rfl⟩
theorem d0_143 : D m0 143 (.iload 8) 2 145 := ⟨by decide +kernel, rfl⟩
theorem d0_145 : D m0 145 (.invokestatic 17) 3 148 := ⟨by decide +kernel, rfl⟩
theorem d0_148 : D m0 148 (.istore 18) 2 150 := ⟨by decide +kernel, rfl⟩
theorem d0_150 : D m0 150 (.iload 14) 2 152 := ⟨by decide +kernel, rfl⟩
theorem d0_152 : DB m0 152 (.ifCond .eq 14) 14 155 166 := ⟨by decide +kernel, rfl, by decide, by decide⟩
theorem d0_155 : D m0 155 (.iload 17) 2 157 := ⟨by decide +kernel, rfl⟩
theorem d0_157 : D m0 157 (.iload 18) 2 159 := ⟨by decide +kernel, rfl⟩
theorem d0_159 : DB m0 159 (.if_icmp .ne 7) 7 162 166 := ⟨by decide +kernel, rfl, by decide, by decide⟩
theorem d0_162 : D m0 162 (.iconst 1) 1 163 := ⟨by decide +kernel, rfl⟩
theorem d0_163 : DB m0 163 (.goto 4) 4 166 167 := ⟨by decide +kernel, rfl, by decide, by decide⟩
theorem d0_166 : D m0 166 (.iconst 0) 1 167 := ⟨by decide +kernel, rfl⟩
theorem d0_167 : D m0 167 (.istore 14) 2 169 := ⟨by decide +kernel, rfl⟩
theorem d0_169 : D m0 169 (.iload 6) 2 171 := ⟨by decide +kernel, rfl⟩
theorem d0_171 : D m0 171 (.iconst 2) 1 172 := ⟨by decide +kernel, rfl⟩
theorem d0_172 : DB m0 172 (.if_icmp .ne 13) 13 175 185 := ⟨by decide +kernel, rfl, by decide, by decide⟩
theorem d0_175 : D m0 175 (.aload 11) 2 177 := ⟨by decide +kernel, rfl⟩
theorem d0_177 : D m0 177 (.invokevirtual 23) 3 180 := ⟨by decide +kernel, rfl⟩
theorem d0_180 : D m0 180 (.aload 12) 2 182 := ⟨by decide +kernel, rfl⟩
theorem d0_182 : D m0 182 (.invokestatic 26) 3 185 := ⟨by decide +kernel, rfl⟩
theorem d0_185 : D m0 185 (.aload 11) 2 187 := ⟨by decide +kernel, rfl⟩
theorem d0_187 : D m0 187 (.iload 9) 2 189 := ⟨by decide +kernel, rfl⟩
theorem d0_189 : D m0 189 (.invokevirtual 13) 3 192 := ⟨by decide +kernel, rfl⟩
theorem d0_192 : D m0 192 (.istore 19) 2 194 := ⟨by decide +kernel, rfl⟩
theorem d0_194 : D m0 194 (.aload 12) 2 196 := ⟨by decide +kernel, rfl⟩
theorem d0_196 : D m0 196 (.aload 13) 2 198 := ⟨by decide +kernel, rfl⟩
theorem d0_198 : D m0 198 (.iload 9) 2 200 := ⟨by decide +kernel, rfl⟩
theorem d0_200 : D m0 200 (.invokestatic 17) 3 203 := ⟨by decide +kernel, rfl⟩
theorem d0_203 : D m0 203 (.istore 20) 2 205 := ⟨by decide +kernel, rfl⟩
theorem d0_205 : D m0 205 (.iload 14) 2 207 := ⟨by decide +kernel, rfl⟩
theorem d0_207 : DB m0 207 (.ifCond .eq 14) 14 210 221 := ⟨by decide +kernel, rfl, by decide, by decide⟩
theorem d0_210 : D m0 210 (.iload 19) 2 212 := ⟨by decide +kernel, rfl⟩
theorem d0_212 : D m0 212 (.iload 20) 2 214 := ⟨by decide +kernel, rfl⟩
theorem d0_214 : DB m0 214 (.if_icmp .ne 7) 7 217 221 := ⟨by decide +kernel, rfl, by decide, by decide⟩
theorem d0_217 : D m0 217 (.iconst 1) 1 218 := ⟨by decide +kernel, rfl⟩
theorem d0_218 : DB m0 218 (.goto 4) 4 221 222 := ⟨by decide +kernel, rfl, by decide, by decide⟩
theorem d0_221 : D m0 221 (.iconst 0) 1 222 := ⟨by decide +kernel, rfl⟩
theorem d0_222 : D m0 222 (.istore 14) 2 224 := ⟨by decide +kernel, rfl⟩
theorem d0_224 : D m0 224 (.iload 6) 2 226 := ⟨by decide +kernel, rfl⟩
theorem d0_226 : D m0 226 (.iconst 3) 1 227 := ⟨by decide +kernel, rfl⟩
theorem d0_227 : DB m0 227 (.if_icmp .ne 13) 13 230 240 := ⟨by decide +kernel, rfl, by decide, by decide⟩
theorem d0_230 : D m0 230 (.aload 11) 2 232 := ⟨by decide +kernel, rfl⟩
theorem d0_232 : D m0 232 (.invokevirtual 23) 3 235 := ⟨by decide +kernel, rfl⟩
theorem d0_235 : D m0 235 (.aload 12) 2 237 := ⟨by decide +kernel, rfl⟩
theorem d0_237 : D m0 237 (.invokestatic 26) 3 240 := ⟨by decide +kernel, rfl⟩
theorem d0_240 : D m0 240 (.aload 11) 2 242 := ⟨by decide +kernel, rfl⟩
theorem d0_242 : D m0 242 (.iload 10) 2 244 := ⟨by decide +kernel, rfl⟩
theorem d0_244 : D m0 244 (.invokevirtual 13) 3 247 := ⟨by decide +kernel, rfl⟩
theorem d0_247 : D m0 247 (.istore 21) 2 249 := ⟨by decide +kernel, rfl⟩
theorem d0_249 : D m0 249 (.aload 12) 2 251 := ⟨by decide +kernel, rfl⟩
theorem d0_251 : D m0 251 (.aload 13) 2 253 := ⟨by decide +kernel, rfl⟩
theorem d0_253 : D m0 253 (.iload 10) 2 255 := ⟨by decide +kernel, rfl⟩
theorem d0_255 : D m0 255 (.invokestatic 17) 3 258 := ⟨by decide +kernel, rfl⟩
theorem d0_258 : D m0 258 (.istore 22) 2 260 := ⟨by decide +kernel, rfl⟩
theorem d0_260 : D m0 260 (.iload 14) 2 262 := ⟨by decide +kernel, rfl⟩
theorem d0_262 : DB m0 262 (.ifCond .eq 14) 14 265 276 := ⟨by decide +kernel, rfl, by decide, by decide⟩
theorem d0_265 : D m0 265 (.iload 21) 2 267 := ⟨by decide +kernel, rfl⟩
theorem d0_267 : D m0 267 (.iload 22) 2 269 := ⟨by decide +kernel, rfl⟩
theorem d0_269 : DB m0 269 (.if_icmp .ne 7) 7 272 276 := ⟨by decide +kernel, rfl, by decide, by decide⟩
theorem d0_272 : D m0 272 (.iconst 1) 1 273 := ⟨by decide +kernel, rfl⟩
theorem d0_273 : DB m0 273 (.goto 4) 4 276 277 := ⟨by decide +kernel, rfl, by decide, by decide⟩
theorem d0_276 : D m0 276 (.iconst 0) 1 277 := ⟨by decide +kernel, rfl⟩
theorem d0_277 : D m0 277 (.istore 14) 2 279 := ⟨by decide +kernel, rfl⟩
theorem d0_279 : D m0 279 (.aload 11) 2 281 := ⟨by decide +kernel, rfl⟩
theorem d0_281 : D m0 281 (.invokevirtual 30) 3 284 := ⟨by decide +kernel, rfl⟩
theorem d0_284 : D m0 284 (.istore 23) 2 286 := ⟨by decide +kernel, rfl⟩
theorem d0_286 : D m0 286 (.aload 11) 2 288 := ⟨by decide +kernel, rfl⟩
theorem d0_288 : D m0 288 (.invokevirtual 34) 3 291 := ⟨by decide +kernel, rfl⟩
theorem d0_291 : D m0 291 (.astore 24) 2 293 := ⟨by decide +kernel, rfl⟩
theorem d0_293 : D m0 293 (.iload 14) 2 295 := ⟨by decide +kernel, rfl⟩
theorem d0_295 : DB m0 295 (.ifCond .eq 30) 30 298 325 := ⟨by decide +kernel, rfl, by decide, by decide⟩
theorem d0_298 : D m0 298 (.iload 23) 2 300 := ⟨by decide +kernel, rfl⟩
theorem d0_300 : D m0 300 (.aload 12) 2 302 := ⟨by decide +kernel, rfl⟩
theorem d0_302 : D m0 302 (.iconst 1) 1 303 := ⟨by decide +kernel, rfl⟩
theorem d0_303 : D m0 303 (.iaload) 1 304 := ⟨by decide +kernel, rfl⟩
theorem d0_304 : DB m0 304 (.if_icmp .ne 21) 21 307 325 := ⟨by decide +kernel, rfl, by decide, by decide⟩
theorem d0_307 : D m0 307 (.aload 24) 2 309 := ⟨by decide +kernel, rfl⟩
theorem d0_309 : D m0 309 (.aload 13) 2 311 := ⟨by decide +kernel, rfl⟩
theorem d0_311 : D m0 311 (.aload 12) 2 313 := ⟨by decide +kernel, rfl⟩
theorem d0_313 : D m0 313 (.iconst 1) 1 314 := ⟨by decide +kernel, rfl⟩
theorem d0_314 : D m0 314 (.iaload) 1 315 := ⟨by decide +kernel, rfl⟩
theorem d0_315 : D m0 315 (.invokestatic 38) 3 318 := ⟨by decide +kernel, rfl⟩
theorem d0_318 : DB m0 318 (.ifCond .eq 7) 7 321 325 := ⟨by decide +kernel, rfl, by decide, by decide⟩
theorem d0_321 : D m0 321 (.iconst 1) 1 322 := ⟨by decide +kernel, rfl⟩
theorem d0_322 : DB m0 322 (.goto 4) 4 325 326 := ⟨by decide +kernel, rfl, by decide, by decide⟩
theorem d0_325 : D m0 325 (.iconst 0) 1 326 := ⟨by decide +kernel, rfl⟩
theorem d0_326 : D m0 326 (.ireturn) 1 327 := ⟨by decide +kernel, rfl⟩
theorem d1_0 : D m1 0 (.aload_n 0) 1 1 := ⟨by decide +kernel, rfl⟩
theorem d1_1 : D m1 1 (.invokespecial 1) 3 4 := ⟨by decide +kernel, rfl⟩
theorem d1_4 : D m1 4 (.aload_n 0) 1 5 := ⟨by decide +kernel, rfl⟩
theorem d1_5 : D m1 5 (.iconst 1) 1 6 := ⟨by decide +kernel, rfl⟩
theorem d1_6 : D m1 6 (.putfield 7) 3 9 := ⟨by decide +kernel, rfl⟩
theorem d1_9 : D m1 9 (.aload_n 0) 1 10 := ⟨by decide +kernel, rfl⟩
theorem d1_10 : D m1 10 (.iload_n 1) 1 11 := ⟨by decide +kernel, rfl⟩
theorem d1_11 : D m1 11 (.newarray .int) 2 13 := ⟨by decide +kernel, rfl⟩
theorem d1_13 : D m1 13 (.putfield 13) 3 16 := ⟨by decide +kernel, rfl⟩
theorem d1_16 : D m1 16 (.aload_n 0) 1 17 := ⟨by decide +kernel, rfl⟩
theorem d1_17 : D m1 17 (.iload_n 1) 1 18 := ⟨by decide +kernel, rfl⟩
theorem d1_18 : D m1 18 (.newarray .int) 2 20 := ⟨by decide +kernel, rfl⟩
theorem d1_20 : D m1 20 (.putfield 17) 3 23 := ⟨by decide +kernel, rfl⟩
theorem d1_23 : D m1 23 (.return_) 1 24 := ⟨by decide +kernel, rfl⟩
theorem d3_0 : D m3 0 (.aload_n 0) 1 1 := ⟨by decide +kernel, rfl⟩
theorem d3_1 : D m3 1 (.getfield 17) 3 4 := ⟨by decide +kernel, rfl⟩
theorem d3_4 : D m3 4 (.iload_n 1) 1 5 := ⟨by decide +kernel, rfl⟩
theorem d3_5 : D m3 5 (.iaload) 1 6 := ⟨by decide +kernel, rfl⟩
theorem d3_6 : D m3 6 (.aload_n 0) 1 7 := ⟨by decide +kernel, rfl⟩
theorem d3_7 : D m3 7 (.getfield 7) 3 10 := ⟨by decide +kernel, rfl⟩
theorem d3_10 : DB m3 10 (.if_icmp .ne 5) 5 13 15 := ⟨by decide +kernel, rfl, by decide, by decide⟩
theorem d3_13 : D m3 13 (.iconst 0) 1 14 := ⟨by decide +kernel, rfl⟩
theorem d3_14 : D m3 14 (.ireturn) 1 15 := ⟨by decide +kernel, rfl⟩
theorem d3_15 : D m3 15 (.aload_n 0) 1 16 := ⟨by decide +kernel, rfl⟩
theorem d3_16 : D m3 16 (.getfield 17) 3 19 := ⟨by decide +kernel, rfl⟩
theorem d3_19 : D m3 19 (.iload_n 1) 1 20 := ⟨by decide +kernel, rfl⟩
theorem d3_20 : D m3 20 (.aload_n 0) 1 21 := ⟨by decide +kernel, rfl⟩
theorem d3_21 : D m3 21 (.getfield 7) 3 24 := ⟨by decide +kernel, rfl⟩
theorem d3_24 : D m3 24 (.iastore) 1 25 := ⟨by decide +kernel, rfl⟩
theorem d3_25 : D m3 25 (.aload_n 0) 1 26 := ⟨by decide +kernel, rfl⟩
theorem d3_26 : D m3 26 (.getfield 13) 3 29 := ⟨by decide +kernel, rfl⟩
theorem d3_29 : D m3 29 (.aload_n 0) 1 30 := ⟨by decide +kernel, rfl⟩
theorem d3_30 : D m3 30 (.dup) 1 31 := ⟨by decide +kernel, rfl⟩
theorem d3_31 : D m3 31 (.getfield 20) 3 34 := ⟨by decide +kernel, rfl⟩
theorem d3_34 : D m3 34 (.dup_x1) 1 35 := ⟨by decide +kernel, rfl⟩
theorem d3_35 : D m3 35 (.iconst 1) 1 36 := ⟨by decide +kernel, rfl⟩
theorem d3_36 : D m3 36 (.iadd) 1 37 := ⟨by decide +kernel, rfl⟩
theorem d3_37 : D m3 37 (.putfield 20) 3 40 := ⟨by decide +kernel, rfl⟩
theorem d3_40 : D m3 40 (.iload_n 1) 1 41 := ⟨by decide +kernel, rfl⟩
theorem d3_41 : D m3 41 (.iastore) 1 42 := ⟨by decide +kernel, rfl⟩
theorem d3_42 : D m3 42 (.iconst 1) 1 43 := ⟨by decide +kernel, rfl⟩
theorem d3_43 : D m3 43 (.ireturn) 1 44 := ⟨by decide +kernel, rfl⟩
theorem d4_0 : D m4 0 (.iconst 1) 1 1 := ⟨by decide +kernel, rfl⟩
theorem d4_1 : D m4 1 (.iload_n 2) 1 2 := ⟨by decide +kernel, rfl⟩
theorem d4_2 : D m4 2 (.ishl) 1 3 := ⟨by decide +kernel, rfl⟩
theorem d4_3 : D m4 3 (.istore_n 3) 1 4 := ⟨by decide +kernel, rfl⟩
theorem d4_4 : D m4 4 (.aload_n 0) 1 5 := ⟨by decide +kernel, rfl⟩
theorem d4_5 : D m4 5 (.iconst 0) 1 6 := ⟨by decide +kernel, rfl⟩
theorem d4_6 : D m4 6 (.iaload) 1 7 := ⟨by decide +kernel, rfl⟩
theorem d4_7 : D m4 7 (.iload_n 3) 1 8 := ⟨by decide +kernel, rfl⟩
theorem d4_8 : D m4 8 (.iand) 1 9 := ⟨by decide +kernel, rfl⟩
theorem d4_9 : DB m4 9 (.ifCond .eq 5) 5 12 14 := ⟨by decide +kernel, rfl, by decide, by decide⟩
theorem d4_12 : D m4 12 (.iconst 0) 1 13 := ⟨by decide +kernel, rfl⟩
theorem d4_13 : D m4 13 (.ireturn) 1 14 := ⟨by decide +kernel, rfl⟩
theorem d4_14 : D m4 14 (.aload_n 0) 1 15 := ⟨by decide +kernel, rfl⟩
theorem d4_15 : D m4 15 (.iconst 0) 1 16 := ⟨by decide +kernel, rfl⟩
theorem d4_16 : D m4 16 (.aload_n 0) 1 17 := ⟨by decide +kernel, rfl⟩
theorem d4_17 : D m4 17 (.iconst 0) 1 18 := ⟨by decide +kernel, rfl⟩
theorem d4_18 : D m4 18 (.iaload) 1 19 := ⟨by decide +kernel, rfl⟩
theorem d4_19 : D m4 19 (.iload_n 3) 1 20 := ⟨by decide +kernel, rfl⟩
theorem d4_20 : D m4 20 (.ior) 1 21 := ⟨by decide +kernel, rfl⟩
theorem d4_21 : D m4 21 (.iastore) 1 22 := ⟨by decide +kernel, rfl⟩
theorem d4_22 : D m4 22 (.aload_n 1) 1 23 := ⟨by decide +kernel, rfl⟩
theorem d4_23 : D m4 23 (.aload_n 0) 1 24 := ⟨by decide +kernel, rfl⟩
theorem d4_24 : D m4 24 (.iconst 1) 1 25 := ⟨by decide +kernel, rfl⟩
theorem d4_25 : D m4 25 (.iaload) 1 26 := ⟨by decide +kernel, rfl⟩
theorem d4_26 : D m4 26 (.iload_n 2) 1 27 := ⟨by decide +kernel, rfl⟩
theorem d4_27 : D m4 27 (.iastore) 1 28 := ⟨by decide +kernel, rfl⟩
theorem d4_28 : D m4 28 (.aload_n 0) 1 29 := ⟨by decide +kernel, rfl⟩
theorem d4_29 : D m4 29 (.iconst 1) 1 30 := ⟨by decide +kernel, rfl⟩
theorem d4_30 : D m4 30 (.aload_n 0) 1 31 := ⟨by decide +kernel, rfl⟩
theorem d4_31 : D m4 31 (.iconst 1) 1 32 := ⟨by decide +kernel, rfl⟩
theorem d4_32 : D m4 32 (.iaload) 1 33 := ⟨by decide +kernel, rfl⟩
theorem d4_33 : D m4 33 (.iconst 1) 1 34 := ⟨by decide +kernel, rfl⟩
theorem d4_34 : D m4 34 (.iadd) 1 35 := ⟨by decide +kernel, rfl⟩
theorem d4_35 : D m4 35 (.iastore) 1 36 := ⟨by decide +kernel, rfl⟩
theorem d4_36 : D m4 36 (.iconst 1) 1 37 := ⟨by decide +kernel, rfl⟩
theorem d4_37 : D m4 37 (.ireturn) 1 38 := ⟨by decide +kernel, rfl⟩
theorem d5_0 : D m5 0 (.aload_n 0) 1 1 := ⟨by decide +kernel, rfl⟩
theorem d5_1 : D m5 1 (.getfield 20) 3 4 := ⟨by decide +kernel, rfl⟩
theorem d5_4 : D m5 4 (.ireturn) 1 5 := ⟨by decide +kernel, rfl⟩
theorem d6_0 : D m6 0 (.aload_n 0) 1 1 := ⟨by decide +kernel, rfl⟩
theorem d6_1 : D m6 1 (.getfield 13) 3 4 := ⟨by decide +kernel, rfl⟩
theorem d6_4 : D m6 4 (.areturn) 1 5 := ⟨by decide +kernel, rfl⟩
theorem d7_0 : D m7 0 (.iload_n 2) 1 1 := ⟨by decide +kernel, rfl⟩
theorem d7_1 : DB m7 1 (.ifCond .le 12) 12 4 13 := ⟨by decide +kernel, rfl, by decide, by decide⟩
theorem d7_4 : D m7 4 (.aload_n 0) 1 5 := ⟨by decide +kernel, rfl⟩
theorem d7_5 : D m7 5 (.iconst 0) 1 6 := ⟨by decide +kernel, rfl⟩
theorem d7_6 : D m7 6 (.iaload) 1 7 := ⟨by decide +kernel, rfl⟩
theorem d7_7 : D m7 7 (.aload_n 1) 1 8 := ⟨by decide +kernel, rfl⟩
theorem d7_8 : D m7 8 (.iconst 0) 1 9 := ⟨by decide +kernel, rfl⟩
theorem d7_9 : D m7 9 (.iaload) 1 10 := ⟨by decide +kernel, rfl⟩
theorem d7_10 : DB m7 10 (.if_icmp .ne 49) 49 13 59 := ⟨by decide +kernel, rfl, by decide, by decide⟩
theorem d7_13 : D m7 13 (.iload_n 2) 1 14 := ⟨by decide +kernel, rfl⟩
theorem d7_14 : D m7 14 (.iconst 1) 1 15 := ⟨by decide +kernel, rfl⟩
theorem d7_15 : DB m7 15 (.if_icmp .le 12) 12 18 27 := ⟨by decide +kernel, rfl, by decide, by decide⟩
theorem d7_18 : D m7 18 (.aload_n 0) 1 19 := ⟨by decide +kernel, rfl⟩
theorem d7_19 : D m7 19 (.iconst 1) 1 20 := ⟨by decide +kernel, rfl⟩
theorem d7_20 : D m7 20 (.iaload) 1 21 := ⟨by decide +kernel, rfl⟩
theorem d7_21 : D m7 21 (.aload_n 1) 1 22 := ⟨by decide +kernel, rfl⟩
theorem d7_22 : D m7 22 (.iconst 1) 1 23 := ⟨by decide +kernel, rfl⟩
theorem d7_23 : D m7 23 (.iaload) 1 24 := ⟨by decide +kernel, rfl⟩
theorem d7_24 : DB m7 24 (.if_icmp .ne 35) 35 27 59 := ⟨by decide +kernel, rfl, by decide, by decide⟩
theorem d7_27 : D m7 27 (.iload_n 2) 1 28 := ⟨by decide +kernel, rfl⟩
theorem d7_28 : D m7 28 (.iconst 2) 1 29 := ⟨by decide +kernel, rfl⟩
theorem d7_29 : DB m7 29 (.if_icmp .le 12) 12 32 41 := ⟨by decide +kernel, rfl, by decide, by decide⟩
theorem d7_32 : D m7 32 (.aload_n 0) 1 33 := ⟨by decide +kernel, rfl⟩
theorem d7_33 : D m7 33 (.iconst 2) 1 34 := ⟨by decide +kernel, rfl⟩
theorem d7_34 : D m7 34 (.iaload) 1 35 := ⟨by decide +kernel, rfl⟩
theorem d7_35 : D m7 35 (.aload_n 1) 1 36 := ⟨by decide +kernel, rfl⟩
theorem d7_36 : D m7 36 (.iconst 2) 1 37 := ⟨by decide +kernel, rfl⟩
theorem d7_37 : D m7 37 (.iaload) 1 38 := ⟨by decide +kernel, rfl⟩
theorem d7_38 : DB m7 38 (.if_icmp .ne 21) 21 41 59 := ⟨by decide +kernel, rfl, by decide, by decide⟩
theorem d7_41 : D m7 41 (.iload_n 2) 1 42 := ⟨by decide +kernel, rfl⟩
theorem d7_42 : D m7 42 (.iconst 3) 1 43 := ⟨by decide +kernel, rfl⟩
theorem d7_43 : DB m7 43 (.if_icmp .le 12) 12 46 55 := ⟨by decide +kernel, rfl, by decide, by decide⟩
theorem d7_46 : D m7 46 (.aload_n 0) 1 47 := ⟨by decide +kernel, rfl⟩
theorem d7_47 : D m7 47 (.iconst 3) 1 48 := ⟨by decide +kernel, rfl⟩
theorem d7_48 : D m7 48 (.iaload) 1 49 := ⟨by decide +kernel, rfl⟩
theorem d7_49 : D m7 49 (.aload_n 1) 1 50 := ⟨by decide +kernel, rfl⟩
theorem d7_50 : D m7 50 (.iconst 3) 1 51 := ⟨by decide +kernel, rfl⟩
theorem d7_51 : D m7 51 (.iaload) 1 52 := ⟨by decide +kernel, rfl⟩
theorem d7_52 : DB m7 52 (.if_icmp .ne 7) 7 55 59 := ⟨by decide +kernel, rfl, by decide, by decide⟩
theorem d7_55 : D m7 55 (.iconst 1) 1 56 := ⟨by decide +kernel, rfl⟩
theorem d7_56 : DB m7 56 (.goto 4) 4 59 60 := ⟨by decide +kernel, rfl, by decide, by decide⟩
theorem d7_59 : D m7 59 (.iconst 0) 1 60 := ⟨by decide +kernel, rfl⟩
theorem d7_60 : D m7 60 (.ireturn) 1 61 := ⟨by decide +kernel, rfl⟩
theorem d8_0 : D m8 0 (.aload_n 0) 1 1 := ⟨by decide +kernel, rfl⟩
theorem d8_1 : D m8 1 (.iconst 0) 1 2 := ⟨by decide +kernel, rfl⟩
theorem d8_2 : D m8 2 (.putfield 20) 3 5 := ⟨by decide +kernel, rfl⟩
theorem d8_5 : D m8 5 (.aload_n 0) 1 6 := ⟨by decide +kernel, rfl⟩
theorem d8_6 : D m8 6 (.dup) 1 7 := ⟨by decide +kernel, rfl⟩
theorem d8_7 : D m8 7 (.getfield 7) 3 10 := ⟨by decide +kernel, rfl⟩
theorem d8_10 : D m8 10 (.iconst 1) 1 11 := ⟨by decide +kernel, rfl⟩
theorem d8_11 : D m8 11 (.iadd) 1 12 := ⟨by decide +kernel, rfl⟩
theorem d8_12 : D m8 12 (.dup_x1) 1 13 := ⟨by decide +kernel, rfl⟩
theorem d8_13 : D m8 13 (.putfield 7) 3 16 := ⟨by decide +kernel, rfl⟩
theorem d8_16 : DB m8 16 (.ifCond .ne 16) 16 19 32 := ⟨by decide +kernel, rfl, by decide, by decide⟩
theorem d8_19 : D m8 19 (.aload_n 0) 1 20 := ⟨by decide +kernel, rfl⟩
theorem d8_20 : D m8 20 (.getfield 17) 3 23 := ⟨by decide +kernel, rfl⟩
theorem d8_23 : D m8 23 (.iconst 0) 1 24 := ⟨by decide +kernel, rfl⟩
theorem d8_24 : D m8 24 (.invokestatic 23) 3 27 := ⟨by decide +kernel, rfl⟩
theorem d8_27 : D m8 27 (.aload_n 0) 1 28 := ⟨by decide +kernel, rfl⟩
theorem d8_28 : D m8 28 (.iconst 1) 1 29 := ⟨by decide +kernel, rfl⟩
theorem d8_29 : D m8 29 (.putfield 7) 3 32 := ⟨by decide +kernel, rfl⟩
theorem d8_32 : D m8 32 (.return_) 1 33 := ⟨by decide +kernel, rfl⟩
theorem d9_0 : D m9 0 (.aload_n 0) 1 1 := ⟨by decide +kernel, rfl⟩
theorem d9_1 : D m9 1 (.iconst 0) 1 2 := ⟨by decide +kernel, rfl⟩
theorem d9_2 : D m9 2 (.iconst 0) 1 3 := ⟨by decide +kernel, rfl⟩
theorem d9_3 : D m9 3 (.iastore) 1 4 := ⟨by decide +kernel, rfl⟩
theorem d9_4 : D m9 4 (.aload_n 0) 1 5 := ⟨by decide +kernel, rfl⟩
theorem d9_5 : D m9 5 (.iconst 1) 1 6 := ⟨by decide +kernel, rfl⟩
theorem d9_6 : D m9 6 (.iconst 0) 1 7 := ⟨by decide +kernel, rfl⟩
theorem d9_7 : D m9 7 (.iastore) 1 8 := ⟨by decide +kernel, rfl⟩
theorem d9_8 : D m9 8 (.return_) 1 9 := ⟨by decide +kernel, rfl⟩
theorem pn0 : plainName "boundwright/search/ReadsRecordPinLaw" = true := by first | (simp [plainName, overriddenIn]; done) | decide +kernel
theorem pn1 : plainName "boundwright/search/Reads" = true := by first | (simp [plainName, overriddenIn]; done) | decide +kernel
theorem pd1 : parseMethodDescriptor "(I)V" = some ⟨[.int], none⟩ := by decide +kernel
theorem ok1 {Z : State} {a0 : Array Value} (hw : ∀ d ∈ tables_1, d.before a0 Z = true) : OkM a0 Z m1 1 := ⟨hw _ (wd 6 rfl), hw _ (wd 3 rfl), plainFor_of_name pn1, ⟨by decide, by decide⟩, arity pd1 rfl⟩
theorem pd3 : parseMethodDescriptor "(I)Z" = some ⟨[.int], some .boolean⟩ := by decide +kernel
theorem ok3 {Z : State} {a0 : Array Value} (hw : ∀ d ∈ tables_1, d.before a0 Z = true) : OkM a0 Z m3 1 := ⟨hw _ (wd 21 rfl), hw _ (wd 3 rfl), plainFor_of_name pn1, ⟨by decide, by decide⟩, arity pd3 rfl⟩
theorem pd4 : parseMethodDescriptor "([I[II)Z" = some ⟨[(.array .int), (.array .int), .int], some .boolean⟩ := by decide +kernel
theorem ok4 {Z : State} {a0 : Array Value} (hw : ∀ d ∈ tables_1, d.before a0 Z = true) : OkM a0 Z m4 3 := ⟨hw _ (wd 27 rfl), hw _ (wd 26 rfl), plainFor_of_name pn0, ⟨by decide, by decide⟩, arity pd4 rfl⟩
theorem pd5 : parseMethodDescriptor "()I" = some ⟨[], some .int⟩ := by decide +kernel
theorem ok5 {Z : State} {a0 : Array Value} (hw : ∀ d ∈ tables_1, d.before a0 Z = true) : OkM a0 Z m5 0 := ⟨hw _ (wd 32 rfl), hw _ (wd 3 rfl), plainFor_of_name pn1, ⟨by decide, by decide⟩, arity pd5 rfl⟩
theorem pd6 : parseMethodDescriptor "()[I" = some ⟨[], some (.array .int)⟩ := by decide +kernel
theorem ok6 {Z : State} {a0 : Array Value} (hw : ∀ d ∈ tables_1, d.before a0 Z = true) : OkM a0 Z m6 0 := ⟨hw _ (wd 37 rfl), hw _ (wd 3 rfl), plainFor_of_name pn1, ⟨by decide, by decide⟩, arity pd6 rfl⟩
theorem pd7 : parseMethodDescriptor "([I[II)Z" = some ⟨[(.array .int), (.array .int), .int], some .boolean⟩ := by decide +kernel
theorem ok7 {Z : State} {a0 : Array Value} (hw : ∀ d ∈ tables_1, d.before a0 Z = true) : OkM a0 Z m7 3 := ⟨hw _ (wd 40 rfl), hw _ (wd 26 rfl), plainFor_of_name pn0, ⟨by decide, by decide⟩, arity pd7 rfl⟩
theorem pd8 : parseMethodDescriptor "()V" = some ⟨[], none⟩ := by decide +kernel
theorem ok8 {Z : State} {a0 : Array Value} (hw : ∀ d ∈ tables_1, d.before a0 Z = true) : OkM a0 Z m8 0 := ⟨hw _ (wd 45 rfl), hw _ (wd 3 rfl), plainFor_of_name pn1, ⟨by decide, by decide⟩, arity pd8 rfl⟩
theorem pd9 : parseMethodDescriptor "([I)V" = some ⟨[(.array .int)], none⟩ := by decide +kernel
theorem ok9 {Z : State} {a0 : Array Value} (hw : ∀ d ∈ tables_1, d.before a0 Z = true) : OkM a0 Z m9 1 := ⟨hw _ (wd 48 rfl), hw _ (wd 26 rfl), plainFor_of_name pn0, ⟨by decide, by decide⟩, arity pd9 rfl⟩
def fs0 : List (Key × Value) := [(("boundwright/search/Reads", "round", "I"), .int 0), (("boundwright/search/Reads", "order", "[I"), .null), (("boundwright/search/Reads", "seen", "[I"), .null), (("boundwright/search/Reads", "size", "I"), .int 0)]
theorem okc0 {Z : State} {a0 : Array Value} (hw : ∀ d ∈ tables_1, d.before a0 Z = true) : OkC a0 Z "boundwright/search/Reads" 4 fs0 := by
  refine ⟨hw _ (wd 2 rfl), hw _ (wd 3 rfl), fun q hq => ?_, by simp [fs0]⟩
  simp only [fs0, List.mem_cons, List.not_mem_nil, or_false] at hq
  rcases hq with rfl | rfl | rfl | rfl
  · exact ⟨.int, Or.inl (hw _ (wd 11 rfl)), by decide, rfl⟩
  · exact ⟨(.array .int), Or.inr (hw _ (wd 14 rfl)), by decide, rfl⟩
  · exact ⟨(.array .int), Or.inr (hw _ (wd 16 rfl)), by decide, rfl⟩
  · exact ⟨.int, Or.inl (hw _ (wd 23 rfl)), by decide, rfl⟩
abbrev OS : Type := List Int32 × List Int32 × Int32 × Int32
abbrev OT : Type := Int32 × Int32 × List Int32
def recR (p : Nat) (s : OS) : Int32 := if s.1.getD p 0 = s.2.2.1 then 0 else 1
def recS (p : Nat) (s : OS) : OS := if s.1.getD p 0 = s.2.2.1 then s else (s.1.set p s.2.2.1, s.2.1.set s.2.2.2.toNatClampNeg (Int32.ofNat p), s.2.2.1, s.2.2.2 + 1)
def recOk (p : Nat) (s : OS) : Bool := decide (p < s.1.length) && (decide (s.1.getD p 0 = s.2.2.1) || (decide (¬ s.2.2.2 < 0) && decide (s.2.2.2.toNatClampNeg < s.2.1.length)))
def stpB (p : Nat) : Int32 := 1 <<< (Int32.ofNat p &&& 31)
def stpR (p : Nat) (t : OT) : Int32 := if t.1 &&& stpB p = 0 then 1 else 0
def stpS (p : Nat) (t : OT) : OT := if t.1 &&& stpB p = 0 then (t.1 ||| stpB p, t.2.1 + 1, t.2.2.set t.2.1.toNatClampNeg (Int32.ofNat p)) else t
def stpOk (p : Nat) (t : OT) : Bool := !decide (t.1 &&& stpB p = 0) || (decide (¬ t.2.1 < 0) && decide (t.2.1.toNatClampNeg < t.2.2.length))
def clrS (s : OS) : OS := (s.1, s.2.1, s.2.2.1 + 1, 0)
def rstS (t : OT) : OT := (0, 0, t.2.2)
def s0 (m : Nat) : OS := (List.replicate m 0, List.replicate m 0, 1, 0)
def t0 : OT := (0, 0, List.replicate 4 0)
def ordOk (s : OS) (t : OT) : Bool := decide (s.2.2.2 = t.2.1) && (List.range 4).all fun i => !decide (Int32.ofNat i < t.2.1) || (decide (i < s.2.1.length) && decide (i < t.2.2.length) && decide (s.2.1.getD i 0 = t.2.2.getD i 0))
theorem own_i {a : Nat} (h : a < 1000) : (Int32.ofNat a).toInt = a := Int32.toInt_ofNat_of_lt (by omega)
theorem own_idx (a : Nat) (h : a < 1000) : ¬ Int32.ofNat a < 0 ∧ (Int32.ofNat a).toNatClampNeg = a := by
  have e := own_i h
  refine ⟨?_, ?_⟩
  · rw [Int32.lt_iff_toInt_lt, e]; have : (0 : Int32).toInt = 0 := rfl; omega
  · show (Int32.ofNat a).toInt.toNat = a; rw [e] <;> rfl
theorem own_get (N : List Int32) (p : Nat) (h : p < N.length) : (N.map Value.int)[p]? = some (.int (N.getD p 0)) := by
  rw [List.getElem?_map, List.getD_eq_getElem?_getD, List.getElem?_eq_getElem h] <;> rfl
theorem own_rec {p : Nat} {s : OS} (h : recOk p s = true) : p < s.1.length ∧ (¬ s.1.getD p 0 = s.2.2.1 → ¬ s.2.2.2 < 0 ∧ s.2.2.2.toNatClampNeg < s.2.1.length) := by
  simp only [recOk, Bool.and_eq_true, Bool.or_eq_true, decide_eq_true_eq] at h
  exact ⟨h.1, fun q => h.2.elim (fun z => absurd z q) id⟩
theorem own_stp {p : Nat} {t : OT} (h : stpOk p t = true) : t.1 &&& stpB p = 0 → ¬ t.2.1 < 0 ∧ t.2.1.toNatClampNeg < t.2.2.length := by
  simp only [stpOk, Bool.and_eq_true, Bool.or_eq_true, Bool.not_eq_true', decide_eq_true_eq, decide_eq_false_iff_not] at h
  exact fun q => h.elim (fun z => absurd q z) id
set_option maxRecDepth 65536 in
set_option maxHeartbeats 40000000 in
theorem w3 {l : Launch} {Z : State} {a0 : Array Value} {n : Nat} (hw : ∀ d ∈ tables_1, d.before a0 Z = true) (p : Nat) (s : OS) (t : OT) (hp : p < 4) (ok : recOk p s = true) : W l Z n m3 0 (entryL [.ref 0, .int (Int32.ofNat p)] 2) [] [.inl ("boundwright/search/Reads", [(("boundwright/search/Reads", "round", "I"), (.int (s.2.2.1))), (("boundwright/search/Reads", "order", "[I"), (.ref 1)), (("boundwright/search/Reads", "seen", "[I"), (.ref 2)), (("boundwright/search/Reads", "size", "I"), (.int (s.2.2.2)))]), .inr (.int, s.2.1.map Value.int), .inr (.int, s.1.map Value.int), .inr (.int, [(.int (t.1)), (.int (t.2.1))]), .inr (.int, t.2.2.map Value.int)] 0 0 (Is (some (.int (recR p s))) [.inl ("boundwright/search/Reads", [(("boundwright/search/Reads", "round", "I"), (.int ((recS p s).2.2.1))), (("boundwright/search/Reads", "order", "[I"), (.ref 1)), (("boundwright/search/Reads", "seen", "[I"), (.ref 2)), (("boundwright/search/Reads", "size", "I"), (.int ((recS p s).2.2.2)))]), .inr (.int, (recS p s).2.1.map Value.int), .inr (.int, (recS p s).1.map Value.int), .inr (.int, [(.int (t.1)), (.int (t.2.1))]), .inr (.int, t.2.2.map Value.int)]) := by
  show W l Z n m3 0 [(.val (.ref 0)), (.val (.int (Int32.ofNat p)))] [] [.inl ("boundwright/search/Reads", [(("boundwright/search/Reads", "round", "I"), (.int (s.2.2.1))), (("boundwright/search/Reads", "order", "[I"), (.ref 1)), (("boundwright/search/Reads", "seen", "[I"), (.ref 2)), (("boundwright/search/Reads", "size", "I"), (.int (s.2.2.2)))]), .inr (.int, s.2.1.map Value.int), .inr (.int, s.1.map Value.int), .inr (.int, [(.int (t.1)), (.int (t.2.1))]), .inr (.int, t.2.2.map Value.int)] 0 0 _
  refine W.aloadN d3_0 rfl rfl ?_
  refine W.getfield 2 d3_1 (hw _ (wd 15 rfl)) rfl rfl ?_
  refine W.iloadN d3_4 rfl ?_
  refine W.iaload (i := p) d3_5 rfl (own_idx _ (by omega)) (own_get _ _ (own_rec ok).1) ?_
  refine W.aloadN d3_6 rfl rfl ?_
  refine W.getfield 0 d3_7 (hw _ (wd 10 rfl)) rfl rfl ?_
  refine W.icmp_ne d3_10 (fun h10 => ?_) (fun h10 => ?_)
  · refine W.aloadN d3_15 rfl rfl ?_
    refine W.getfield 2 d3_16 (hw _ (wd 15 rfl)) rfl rfl ?_
    refine W.iloadN d3_19 rfl ?_
    refine W.aloadN d3_20 rfl rfl ?_
    refine W.getfield 0 d3_21 (hw _ (wd 10 rfl)) rfl rfl ?_
    refine W.iastore (i := p) d3_24 rfl (own_idx _ (by omega)) (by rw [List.length_map]; exact (own_rec ok).1) ?_
    refine W.aloadN d3_25 rfl rfl ?_
    refine W.getfield 1 d3_26 (hw _ (wd 13 rfl)) rfl rfl ?_
    refine W.aloadN d3_29 rfl rfl ?_
    refine W.dup d3_30 rfl ?_
    refine W.getfield 3 d3_31 (hw _ (wd 22 rfl)) rfl rfl ?_
    refine W.dupX1 d3_34 rfl rfl ?_
    refine W.iconst 1 d3_35 rfl ?_
    refine W.iadd d3_36 ?_
    refine W.putfield 3 d3_37 (hw _ (wd 22 rfl)) rfl rfl (Or.inl (hw _ (wd 23 rfl))) (hw _ (wd 2 rfl)) (ty := .int) (by decide) (fun _ => rfl) (fun _ => rfl) ?_
    refine W.iloadN d3_40 rfl ?_
    refine W.iastore (i := s.2.2.2.toNatClampNeg) d3_41 rfl ⟨((own_rec ok).2 h10).1, rfl⟩ (by rw [List.length_map]; exact ((own_rec ok).2 h10).2) ?_
    refine W.iconst 1 d3_42 rfl ?_
    exact W.nreturn .boolean d3_43 rfl (by simp) (by decide) (by decide) (⟨by rw [show recR p s = 1 from if_neg h10] <;> rfl, by rw [show recS p s = (s.1.set p s.2.2.1, s.2.1.set s.2.2.2.toNatClampNeg (Int32.ofNat p), s.2.2.1, s.2.2.2 + 1) from if_neg h10]; simp only [List.map_set]; rfl⟩)
  · refine W.iconst 0 d3_13 rfl ?_
    exact W.nreturn .boolean d3_14 rfl (by simp) (by decide) (by decide) (⟨by rw [show recR p s = 0 from if_pos h10] <;> rfl, by rw [show recS p s = s from if_pos h10] <;> rfl⟩)
set_option maxRecDepth 65536 in
set_option maxHeartbeats 40000000 in
theorem w4 {l : Launch} {Z : State} {a0 : Array Value} {n : Nat} (hw : ∀ d ∈ tables_1, d.before a0 Z = true) (p : Nat) (s : OS) (t : OT) (hp : p < 4) (ok : stpOk p t = true) : W l Z n m4 0 (entryL [.ref 3, .ref 4, .int (Int32.ofNat p)] 4) [] [.inl ("boundwright/search/Reads", [(("boundwright/search/Reads", "round", "I"), (.int (s.2.2.1))), (("boundwright/search/Reads", "order", "[I"), (.ref 1)), (("boundwright/search/Reads", "seen", "[I"), (.ref 2)), (("boundwright/search/Reads", "size", "I"), (.int (s.2.2.2)))]), .inr (.int, s.2.1.map Value.int), .inr (.int, s.1.map Value.int), .inr (.int, [(.int (t.1)), (.int (t.2.1))]), .inr (.int, t.2.2.map Value.int)] 0 0 (Is (some (.int (stpR p t))) [.inl ("boundwright/search/Reads", [(("boundwright/search/Reads", "round", "I"), (.int (s.2.2.1))), (("boundwright/search/Reads", "order", "[I"), (.ref 1)), (("boundwright/search/Reads", "seen", "[I"), (.ref 2)), (("boundwright/search/Reads", "size", "I"), (.int (s.2.2.2)))]), .inr (.int, s.2.1.map Value.int), .inr (.int, s.1.map Value.int), .inr (.int, [(.int ((stpS p t).1)), (.int ((stpS p t).2.1))]), .inr (.int, (stpS p t).2.2.map Value.int)]) := by
  show W l Z n m4 0 [(.val (.ref 3)), (.val (.ref 4)), (.val (.int (Int32.ofNat p))), .unset] [] [.inl ("boundwright/search/Reads", [(("boundwright/search/Reads", "round", "I"), (.int (s.2.2.1))), (("boundwright/search/Reads", "order", "[I"), (.ref 1)), (("boundwright/search/Reads", "seen", "[I"), (.ref 2)), (("boundwright/search/Reads", "size", "I"), (.int (s.2.2.2)))]), .inr (.int, s.2.1.map Value.int), .inr (.int, s.1.map Value.int), .inr (.int, [(.int (t.1)), (.int (t.2.1))]), .inr (.int, t.2.2.map Value.int)] 0 0 _
  refine W.iconst 1 d4_0 rfl ?_
  refine W.iloadN d4_1 rfl ?_
  refine W.ishl d4_2 ?_
  refine W.istoreN d4_3 rfl ?_
  refine W.aloadN d4_4 rfl rfl ?_
  refine W.iconst 0 d4_5 rfl ?_
  refine W.iaload (i := 0) d4_6 rfl ⟨by decide, by decide⟩ rfl ?_
  refine W.iloadN d4_7 rfl ?_
  refine W.iand d4_8 ?_
  refine W.if_eq d4_9 (fun h9 => ?_) (fun h9 => ?_)
  · have h9' : t.1 &&& stpB p = 0 := h9
    refine W.aloadN d4_14 rfl rfl ?_
    refine W.iconst 0 d4_15 rfl ?_
    refine W.aloadN d4_16 rfl rfl ?_
    refine W.iconst 0 d4_17 rfl ?_
    refine W.iaload (i := 0) d4_18 rfl ⟨by decide, by decide⟩ rfl ?_
    refine W.iloadN d4_19 rfl ?_
    refine W.ior d4_20 ?_
    refine W.iastore (i := 0) d4_21 rfl ⟨by decide, by decide⟩ (by simp) ?_
    refine W.aloadN d4_22 rfl rfl ?_
    refine W.aloadN d4_23 rfl rfl ?_
    refine W.iconst 1 d4_24 rfl ?_
    refine W.iaload (i := 1) d4_25 rfl ⟨by decide, by decide⟩ rfl ?_
    refine W.iloadN d4_26 rfl ?_
    refine W.iastore (i := t.2.1.toNatClampNeg) d4_27 rfl ⟨(own_stp ok h9).1, rfl⟩ (by rw [List.length_map]; exact (own_stp ok h9).2) ?_
    refine W.aloadN d4_28 rfl rfl ?_
    refine W.iconst 1 d4_29 rfl ?_
    refine W.aloadN d4_30 rfl rfl ?_
    refine W.iconst 1 d4_31 rfl ?_
    refine W.iaload (i := 1) d4_32 rfl ⟨by decide, by decide⟩ rfl ?_
    refine W.iconst 1 d4_33 rfl ?_
    refine W.iadd d4_34 ?_
    refine W.iastore (i := 1) d4_35 rfl ⟨by decide, by decide⟩ (by simp) ?_
    show WB _ l Z n m4 36 [(.val (.ref 3)), (.val (.ref 4)), (.val (.int (Int32.ofNat p))), (.val (.int ((1 : Int32) <<< ((Int32.ofNat p) &&& 31))))] [] [.inl ("boundwright/search/Reads", [(("boundwright/search/Reads", "round", "I"), (.int (s.2.2.1))), (("boundwright/search/Reads", "order", "[I"), (.ref 1)), (("boundwright/search/Reads", "seen", "[I"), (.ref 2)), (("boundwright/search/Reads", "size", "I"), (.int (s.2.2.2)))]), .inr (.int, s.2.1.map Value.int), .inr (.int, s.1.map Value.int), .inr (.int, [(.int (t.1 ||| ((1 : Int32) <<< ((Int32.ofNat p) &&& 31)))), (.int (t.2.1 + 1))]), .inr (.int, (t.2.2.map Value.int).set t.2.1.toNatClampNeg (.int (Int32.ofNat p)))] _ _ _
    refine W.iconst 1 d4_36 rfl ?_
    exact W.nreturn .boolean d4_37 rfl (by simp) (by decide) (by decide) (⟨by rw [show stpR p t = 1 from if_pos h9'] <;> rfl, by rw [show stpS p t = (t.1 ||| stpB p, t.2.1 + 1, t.2.2.set t.2.1.toNatClampNeg (Int32.ofNat p)) from if_pos h9']; simp only [List.map_set]; rfl⟩)
  · have h9' : ¬ t.1 &&& stpB p = 0 := h9
    refine W.iconst 0 d4_12 rfl ?_
    exact W.nreturn .boolean d4_13 rfl (by simp) (by decide) (by decide) (⟨by rw [show stpR p t = 0 from if_neg h9'] <;> rfl, by rw [show stpS p t = t from if_neg h9'] <;> rfl⟩)
set_option maxRecDepth 65536 in
set_option maxHeartbeats 40000000 in
theorem w8 {l : Launch} {Z : State} {a0 : Array Value} {n : Nat} (hw : ∀ d ∈ tables_1, d.before a0 Z = true) (s : OS) (t : OT) (hr : ¬ s.2.2.1 + 1 = 0) : W l Z n m8 0 (entryL [.ref 0] 1) [] [.inl ("boundwright/search/Reads", [(("boundwright/search/Reads", "round", "I"), (.int (s.2.2.1))), (("boundwright/search/Reads", "order", "[I"), (.ref 1)), (("boundwright/search/Reads", "seen", "[I"), (.ref 2)), (("boundwright/search/Reads", "size", "I"), (.int (s.2.2.2)))]), .inr (.int, s.2.1.map Value.int), .inr (.int, s.1.map Value.int), .inr (.int, [(.int (t.1)), (.int (t.2.1))]), .inr (.int, t.2.2.map Value.int)] 0 0 (Is none [.inl ("boundwright/search/Reads", [(("boundwright/search/Reads", "round", "I"), (.int ((clrS s).2.2.1))), (("boundwright/search/Reads", "order", "[I"), (.ref 1)), (("boundwright/search/Reads", "seen", "[I"), (.ref 2)), (("boundwright/search/Reads", "size", "I"), (.int ((clrS s).2.2.2)))]), .inr (.int, (clrS s).2.1.map Value.int), .inr (.int, (clrS s).1.map Value.int), .inr (.int, [(.int (t.1)), (.int (t.2.1))]), .inr (.int, t.2.2.map Value.int)]) := by
  show W l Z n m8 0 [(.val (.ref 0))] [] [.inl ("boundwright/search/Reads", [(("boundwright/search/Reads", "round", "I"), (.int (s.2.2.1))), (("boundwright/search/Reads", "order", "[I"), (.ref 1)), (("boundwright/search/Reads", "seen", "[I"), (.ref 2)), (("boundwright/search/Reads", "size", "I"), (.int (s.2.2.2)))]), .inr (.int, s.2.1.map Value.int), .inr (.int, s.1.map Value.int), .inr (.int, [(.int (t.1)), (.int (t.2.1))]), .inr (.int, t.2.2.map Value.int)] 0 0 _
  refine W.aloadN d8_0 rfl rfl ?_
  refine W.iconst 0 d8_1 rfl ?_
  refine W.putfield 3 d8_2 (hw _ (wd 22 rfl)) rfl rfl (Or.inl (hw _ (wd 23 rfl))) (hw _ (wd 2 rfl)) (ty := .int) (by decide) (fun _ => rfl) (fun _ => rfl) ?_
  refine W.aloadN d8_5 rfl rfl ?_
  refine W.dup d8_6 rfl ?_
  refine W.getfield 0 d8_7 (hw _ (wd 10 rfl)) rfl rfl ?_
  refine W.iconst 1 d8_10 rfl ?_
  refine W.iadd d8_11 ?_
  refine W.dupX1 d8_12 rfl rfl ?_
  refine W.putfield 0 d8_13 (hw _ (wd 10 rfl)) rfl rfl (Or.inl (hw _ (wd 11 rfl))) (hw _ (wd 2 rfl)) (ty := .int) (by decide) (fun _ => rfl) (fun _ => rfl) ?_
  refine W.if_ne d8_16 (fun h16 => ?_) (fun h => False.elim (hr h))
  exact W.leave d8_32 rfl (by decide) (by decide) (⟨rfl, rfl⟩)
set_option maxRecDepth 65536 in
set_option maxHeartbeats 40000000 in
theorem w9 {l : Launch} {Z : State} {a0 : Array Value} {n : Nat} (hw : ∀ d ∈ tables_1, d.before a0 Z = true) (s : OS) (t : OT) : W l Z n m9 0 (entryL [.ref 3] 1) [] [.inl ("boundwright/search/Reads", [(("boundwright/search/Reads", "round", "I"), (.int (s.2.2.1))), (("boundwright/search/Reads", "order", "[I"), (.ref 1)), (("boundwright/search/Reads", "seen", "[I"), (.ref 2)), (("boundwright/search/Reads", "size", "I"), (.int (s.2.2.2)))]), .inr (.int, s.2.1.map Value.int), .inr (.int, s.1.map Value.int), .inr (.int, [(.int (t.1)), (.int (t.2.1))]), .inr (.int, t.2.2.map Value.int)] 0 0 (Is none [.inl ("boundwright/search/Reads", [(("boundwright/search/Reads", "round", "I"), (.int (s.2.2.1))), (("boundwright/search/Reads", "order", "[I"), (.ref 1)), (("boundwright/search/Reads", "seen", "[I"), (.ref 2)), (("boundwright/search/Reads", "size", "I"), (.int (s.2.2.2)))]), .inr (.int, s.2.1.map Value.int), .inr (.int, s.1.map Value.int), .inr (.int, [(.int ((rstS t).1)), (.int ((rstS t).2.1))]), .inr (.int, (rstS t).2.2.map Value.int)]) := by
  show W l Z n m9 0 [(.val (.ref 3))] [] [.inl ("boundwright/search/Reads", [(("boundwright/search/Reads", "round", "I"), (.int (s.2.2.1))), (("boundwright/search/Reads", "order", "[I"), (.ref 1)), (("boundwright/search/Reads", "seen", "[I"), (.ref 2)), (("boundwright/search/Reads", "size", "I"), (.int (s.2.2.2)))]), .inr (.int, s.2.1.map Value.int), .inr (.int, s.1.map Value.int), .inr (.int, [(.int (t.1)), (.int (t.2.1))]), .inr (.int, t.2.2.map Value.int)] 0 0 _
  refine W.aloadN d9_0 rfl rfl ?_
  refine W.iconst 0 d9_1 rfl ?_
  refine W.iconst 0 d9_2 rfl ?_
  refine W.iastore (i := 0) d9_3 rfl ⟨by decide, by decide⟩ (by simp) ?_
  refine W.aloadN d9_4 rfl rfl ?_
  refine W.iconst 1 d9_5 rfl ?_
  refine W.iconst 0 d9_6 rfl ?_
  refine W.iastore (i := 1) d9_7 rfl ⟨by decide, by decide⟩ (by simp) ?_
  exact W.leave d9_8 rfl (by decide) (by decide) (⟨rfl, rfl⟩)
theorem own_ord {s : OS} {t : OT} (h : ordOk s t = true) (i : Nat) (hi : i < 4) (q : Int32.ofNat i < t.2.1) : i < s.2.1.length ∧ i < t.2.2.length ∧ s.2.1.getD i 0 = t.2.2.getD i 0 := by
  simp only [ordOk, Bool.and_eq_true, List.all_eq_true] at h
  have := h.2 i (List.mem_range.mpr hi)
  simp only [Bool.or_eq_true, Bool.not_eq_true', decide_eq_false_iff_not, Bool.and_eq_true, decide_eq_true_eq] at this
  rcases this with z | z
  · exact absurd q z
  · exact ⟨z.1.1, z.1.2, z.2⟩
set_option maxRecDepth 65536 in
set_option maxHeartbeats 40000000 in
theorem w7 {l : Launch} {Z : State} {a0 : Array Value} {n : Nat} (hw : ∀ d ∈ tables_1, d.before a0 Z = true) (s : OS) (t : OT) (ok : ordOk s t = true) : W l Z n m7 0 (entryL [.ref 1, .ref 4, .int t.2.1] 3) [] [.inl ("boundwright/search/Reads", [(("boundwright/search/Reads", "round", "I"), (.int (s.2.2.1))), (("boundwright/search/Reads", "order", "[I"), (.ref 1)), (("boundwright/search/Reads", "seen", "[I"), (.ref 2)), (("boundwright/search/Reads", "size", "I"), (.int (s.2.2.2)))]), .inr (.int, s.2.1.map Value.int), .inr (.int, s.1.map Value.int), .inr (.int, [(.int (t.1)), (.int (t.2.1))]), .inr (.int, t.2.2.map Value.int)] 0 0 (Is (some (.int 1)) [.inl ("boundwright/search/Reads", [(("boundwright/search/Reads", "round", "I"), (.int (s.2.2.1))), (("boundwright/search/Reads", "order", "[I"), (.ref 1)), (("boundwright/search/Reads", "seen", "[I"), (.ref 2)), (("boundwright/search/Reads", "size", "I"), (.int (s.2.2.2)))]), .inr (.int, s.2.1.map Value.int), .inr (.int, s.1.map Value.int), .inr (.int, [(.int (t.1)), (.int (t.2.1))]), .inr (.int, t.2.2.map Value.int)]) := by
  show W l Z n m7 0 [(.val (.ref 1)), (.val (.ref 4)), (.val (.int (t.2.1)))] [] [.inl ("boundwright/search/Reads", [(("boundwright/search/Reads", "round", "I"), (.int (s.2.2.1))), (("boundwright/search/Reads", "order", "[I"), (.ref 1)), (("boundwright/search/Reads", "seen", "[I"), (.ref 2)), (("boundwright/search/Reads", "size", "I"), (.int (s.2.2.2)))]), .inr (.int, s.2.1.map Value.int), .inr (.int, s.1.map Value.int), .inr (.int, [(.int (t.1)), (.int (t.2.1))]), .inr (.int, t.2.2.map Value.int)] 0 0 _
  refine W.iloadN d7_0 rfl ?_
  refine W.if_le d7_1 (fun h1 => ?_) (fun h1 => ?_)
  · refine W.iloadN d7_13 rfl ?_
    refine W.iconst 1 d7_14 rfl ?_
    refine W.icmp_le d7_15 (fun h15 => ?_) (fun h15 => ?_)
    · refine W.iloadN d7_27 rfl ?_
      refine W.iconst 2 d7_28 rfl ?_
      refine W.icmp_le d7_29 (fun h29 => ?_) (fun h29 => ?_)
      · refine W.iloadN d7_41 rfl ?_
        refine W.iconst 3 d7_42 rfl ?_
        refine W.icmp_le d7_43 (fun h43 => ?_) (fun h43 => ?_)
        · refine W.iconst 1 d7_55 rfl ?_
          refine W.goto d7_56 ?_
          exact W.nreturn .boolean d7_60 rfl (by simp) (by decide) (by decide) (⟨rfl, rfl⟩)
        · refine W.aloadN d7_46 rfl rfl ?_
          refine W.iconst 3 d7_47 rfl ?_
          refine W.iaload (i := 3) d7_48 rfl ⟨by decide, by decide⟩ (own_get _ _ (own_ord ok 3 (by decide) h43).1) ?_
          refine W.aloadN d7_49 rfl rfl ?_
          refine W.iconst 3 d7_50 rfl ?_
          refine W.iaload (i := 3) d7_51 rfl ⟨by decide, by decide⟩ (own_get _ _ (own_ord ok 3 (by decide) h43).2.1) ?_
          refine W.icmp_ne d7_52 (fun h => False.elim (h (own_ord ok 3 (by decide) h43).2.2)) (fun h52 => ?_)
          refine W.iconst 1 d7_55 rfl ?_
          refine W.goto d7_56 ?_
          exact W.nreturn .boolean d7_60 rfl (by simp) (by decide) (by decide) (⟨rfl, rfl⟩)
      · refine W.aloadN d7_32 rfl rfl ?_
        refine W.iconst 2 d7_33 rfl ?_
        refine W.iaload (i := 2) d7_34 rfl ⟨by decide, by decide⟩ (own_get _ _ (own_ord ok 2 (by decide) h29).1) ?_
        refine W.aloadN d7_35 rfl rfl ?_
        refine W.iconst 2 d7_36 rfl ?_
        refine W.iaload (i := 2) d7_37 rfl ⟨by decide, by decide⟩ (own_get _ _ (own_ord ok 2 (by decide) h29).2.1) ?_
        refine W.icmp_ne d7_38 (fun h => False.elim (h (own_ord ok 2 (by decide) h29).2.2)) (fun h38 => ?_)
        refine W.iloadN d7_41 rfl ?_
        refine W.iconst 3 d7_42 rfl ?_
        refine W.icmp_le d7_43 (fun h43 => ?_) (fun h43 => ?_)
        · refine W.iconst 1 d7_55 rfl ?_
          refine W.goto d7_56 ?_
          exact W.nreturn .boolean d7_60 rfl (by simp) (by decide) (by decide) (⟨rfl, rfl⟩)
        · refine W.aloadN d7_46 rfl rfl ?_
          refine W.iconst 3 d7_47 rfl ?_
          refine W.iaload (i := 3) d7_48 rfl ⟨by decide, by decide⟩ (own_get _ _ (own_ord ok 3 (by decide) h43).1) ?_
          refine W.aloadN d7_49 rfl rfl ?_
          refine W.iconst 3 d7_50 rfl ?_
          refine W.iaload (i := 3) d7_51 rfl ⟨by decide, by decide⟩ (own_get _ _ (own_ord ok 3 (by decide) h43).2.1) ?_
          refine W.icmp_ne d7_52 (fun h => False.elim (h (own_ord ok 3 (by decide) h43).2.2)) (fun h52 => ?_)
          refine W.iconst 1 d7_55 rfl ?_
          refine W.goto d7_56 ?_
          exact W.nreturn .boolean d7_60 rfl (by simp) (by decide) (by decide) (⟨rfl, rfl⟩)
    · refine W.aloadN d7_18 rfl rfl ?_
      refine W.iconst 1 d7_19 rfl ?_
      refine W.iaload (i := 1) d7_20 rfl ⟨by decide, by decide⟩ (own_get _ _ (own_ord ok 1 (by decide) h15).1) ?_
      refine W.aloadN d7_21 rfl rfl ?_
      refine W.iconst 1 d7_22 rfl ?_
      refine W.iaload (i := 1) d7_23 rfl ⟨by decide, by decide⟩ (own_get _ _ (own_ord ok 1 (by decide) h15).2.1) ?_
      refine W.icmp_ne d7_24 (fun h => False.elim (h (own_ord ok 1 (by decide) h15).2.2)) (fun h24 => ?_)
      refine W.iloadN d7_27 rfl ?_
      refine W.iconst 2 d7_28 rfl ?_
      refine W.icmp_le d7_29 (fun h29 => ?_) (fun h29 => ?_)
      · refine W.iloadN d7_41 rfl ?_
        refine W.iconst 3 d7_42 rfl ?_
        refine W.icmp_le d7_43 (fun h43 => ?_) (fun h43 => ?_)
        · refine W.iconst 1 d7_55 rfl ?_
          refine W.goto d7_56 ?_
          exact W.nreturn .boolean d7_60 rfl (by simp) (by decide) (by decide) (⟨rfl, rfl⟩)
        · refine W.aloadN d7_46 rfl rfl ?_
          refine W.iconst 3 d7_47 rfl ?_
          refine W.iaload (i := 3) d7_48 rfl ⟨by decide, by decide⟩ (own_get _ _ (own_ord ok 3 (by decide) h43).1) ?_
          refine W.aloadN d7_49 rfl rfl ?_
          refine W.iconst 3 d7_50 rfl ?_
          refine W.iaload (i := 3) d7_51 rfl ⟨by decide, by decide⟩ (own_get _ _ (own_ord ok 3 (by decide) h43).2.1) ?_
          refine W.icmp_ne d7_52 (fun h => False.elim (h (own_ord ok 3 (by decide) h43).2.2)) (fun h52 => ?_)
          refine W.iconst 1 d7_55 rfl ?_
          refine W.goto d7_56 ?_
          exact W.nreturn .boolean d7_60 rfl (by simp) (by decide) (by decide) (⟨rfl, rfl⟩)
      · refine W.aloadN d7_32 rfl rfl ?_
        refine W.iconst 2 d7_33 rfl ?_
        refine W.iaload (i := 2) d7_34 rfl ⟨by decide, by decide⟩ (own_get _ _ (own_ord ok 2 (by decide) h29).1) ?_
        refine W.aloadN d7_35 rfl rfl ?_
        refine W.iconst 2 d7_36 rfl ?_
        refine W.iaload (i := 2) d7_37 rfl ⟨by decide, by decide⟩ (own_get _ _ (own_ord ok 2 (by decide) h29).2.1) ?_
        refine W.icmp_ne d7_38 (fun h => False.elim (h (own_ord ok 2 (by decide) h29).2.2)) (fun h38 => ?_)
        refine W.iloadN d7_41 rfl ?_
        refine W.iconst 3 d7_42 rfl ?_
        refine W.icmp_le d7_43 (fun h43 => ?_) (fun h43 => ?_)
        · refine W.iconst 1 d7_55 rfl ?_
          refine W.goto d7_56 ?_
          exact W.nreturn .boolean d7_60 rfl (by simp) (by decide) (by decide) (⟨rfl, rfl⟩)
        · refine W.aloadN d7_46 rfl rfl ?_
          refine W.iconst 3 d7_47 rfl ?_
          refine W.iaload (i := 3) d7_48 rfl ⟨by decide, by decide⟩ (own_get _ _ (own_ord ok 3 (by decide) h43).1) ?_
          refine W.aloadN d7_49 rfl rfl ?_
          refine W.iconst 3 d7_50 rfl ?_
          refine W.iaload (i := 3) d7_51 rfl ⟨by decide, by decide⟩ (own_get _ _ (own_ord ok 3 (by decide) h43).2.1) ?_
          refine W.icmp_ne d7_52 (fun h => False.elim (h (own_ord ok 3 (by decide) h43).2.2)) (fun h52 => ?_)
          refine W.iconst 1 d7_55 rfl ?_
          refine W.goto d7_56 ?_
          exact W.nreturn .boolean d7_60 rfl (by simp) (by decide) (by decide) (⟨rfl, rfl⟩)
  · refine W.aloadN d7_4 rfl rfl ?_
    refine W.iconst 0 d7_5 rfl ?_
    refine W.iaload (i := 0) d7_6 rfl ⟨by decide, by decide⟩ (own_get _ _ (own_ord ok 0 (by decide) h1).1) ?_
    refine W.aloadN d7_7 rfl rfl ?_
    refine W.iconst 0 d7_8 rfl ?_
    refine W.iaload (i := 0) d7_9 rfl ⟨by decide, by decide⟩ (own_get _ _ (own_ord ok 0 (by decide) h1).2.1) ?_
    refine W.icmp_ne d7_10 (fun h => False.elim (h (own_ord ok 0 (by decide) h1).2.2)) (fun h10 => ?_)
    refine W.iloadN d7_13 rfl ?_
    refine W.iconst 1 d7_14 rfl ?_
    refine W.icmp_le d7_15 (fun h15 => ?_) (fun h15 => ?_)
    · refine W.iloadN d7_27 rfl ?_
      refine W.iconst 2 d7_28 rfl ?_
      refine W.icmp_le d7_29 (fun h29 => ?_) (fun h29 => ?_)
      · refine W.iloadN d7_41 rfl ?_
        refine W.iconst 3 d7_42 rfl ?_
        refine W.icmp_le d7_43 (fun h43 => ?_) (fun h43 => ?_)
        · refine W.iconst 1 d7_55 rfl ?_
          refine W.goto d7_56 ?_
          exact W.nreturn .boolean d7_60 rfl (by simp) (by decide) (by decide) (⟨rfl, rfl⟩)
        · refine W.aloadN d7_46 rfl rfl ?_
          refine W.iconst 3 d7_47 rfl ?_
          refine W.iaload (i := 3) d7_48 rfl ⟨by decide, by decide⟩ (own_get _ _ (own_ord ok 3 (by decide) h43).1) ?_
          refine W.aloadN d7_49 rfl rfl ?_
          refine W.iconst 3 d7_50 rfl ?_
          refine W.iaload (i := 3) d7_51 rfl ⟨by decide, by decide⟩ (own_get _ _ (own_ord ok 3 (by decide) h43).2.1) ?_
          refine W.icmp_ne d7_52 (fun h => False.elim (h (own_ord ok 3 (by decide) h43).2.2)) (fun h52 => ?_)
          refine W.iconst 1 d7_55 rfl ?_
          refine W.goto d7_56 ?_
          exact W.nreturn .boolean d7_60 rfl (by simp) (by decide) (by decide) (⟨rfl, rfl⟩)
      · refine W.aloadN d7_32 rfl rfl ?_
        refine W.iconst 2 d7_33 rfl ?_
        refine W.iaload (i := 2) d7_34 rfl ⟨by decide, by decide⟩ (own_get _ _ (own_ord ok 2 (by decide) h29).1) ?_
        refine W.aloadN d7_35 rfl rfl ?_
        refine W.iconst 2 d7_36 rfl ?_
        refine W.iaload (i := 2) d7_37 rfl ⟨by decide, by decide⟩ (own_get _ _ (own_ord ok 2 (by decide) h29).2.1) ?_
        refine W.icmp_ne d7_38 (fun h => False.elim (h (own_ord ok 2 (by decide) h29).2.2)) (fun h38 => ?_)
        refine W.iloadN d7_41 rfl ?_
        refine W.iconst 3 d7_42 rfl ?_
        refine W.icmp_le d7_43 (fun h43 => ?_) (fun h43 => ?_)
        · refine W.iconst 1 d7_55 rfl ?_
          refine W.goto d7_56 ?_
          exact W.nreturn .boolean d7_60 rfl (by simp) (by decide) (by decide) (⟨rfl, rfl⟩)
        · refine W.aloadN d7_46 rfl rfl ?_
          refine W.iconst 3 d7_47 rfl ?_
          refine W.iaload (i := 3) d7_48 rfl ⟨by decide, by decide⟩ (own_get _ _ (own_ord ok 3 (by decide) h43).1) ?_
          refine W.aloadN d7_49 rfl rfl ?_
          refine W.iconst 3 d7_50 rfl ?_
          refine W.iaload (i := 3) d7_51 rfl ⟨by decide, by decide⟩ (own_get _ _ (own_ord ok 3 (by decide) h43).2.1) ?_
          refine W.icmp_ne d7_52 (fun h => False.elim (h (own_ord ok 3 (by decide) h43).2.2)) (fun h52 => ?_)
          refine W.iconst 1 d7_55 rfl ?_
          refine W.goto d7_56 ?_
          exact W.nreturn .boolean d7_60 rfl (by simp) (by decide) (by decide) (⟨rfl, rfl⟩)
    · refine W.aloadN d7_18 rfl rfl ?_
      refine W.iconst 1 d7_19 rfl ?_
      refine W.iaload (i := 1) d7_20 rfl ⟨by decide, by decide⟩ (own_get _ _ (own_ord ok 1 (by decide) h15).1) ?_
      refine W.aloadN d7_21 rfl rfl ?_
      refine W.iconst 1 d7_22 rfl ?_
      refine W.iaload (i := 1) d7_23 rfl ⟨by decide, by decide⟩ (own_get _ _ (own_ord ok 1 (by decide) h15).2.1) ?_
      refine W.icmp_ne d7_24 (fun h => False.elim (h (own_ord ok 1 (by decide) h15).2.2)) (fun h24 => ?_)
      refine W.iloadN d7_27 rfl ?_
      refine W.iconst 2 d7_28 rfl ?_
      refine W.icmp_le d7_29 (fun h29 => ?_) (fun h29 => ?_)
      · refine W.iloadN d7_41 rfl ?_
        refine W.iconst 3 d7_42 rfl ?_
        refine W.icmp_le d7_43 (fun h43 => ?_) (fun h43 => ?_)
        · refine W.iconst 1 d7_55 rfl ?_
          refine W.goto d7_56 ?_
          exact W.nreturn .boolean d7_60 rfl (by simp) (by decide) (by decide) (⟨rfl, rfl⟩)
        · refine W.aloadN d7_46 rfl rfl ?_
          refine W.iconst 3 d7_47 rfl ?_
          refine W.iaload (i := 3) d7_48 rfl ⟨by decide, by decide⟩ (own_get _ _ (own_ord ok 3 (by decide) h43).1) ?_
          refine W.aloadN d7_49 rfl rfl ?_
          refine W.iconst 3 d7_50 rfl ?_
          refine W.iaload (i := 3) d7_51 rfl ⟨by decide, by decide⟩ (own_get _ _ (own_ord ok 3 (by decide) h43).2.1) ?_
          refine W.icmp_ne d7_52 (fun h => False.elim (h (own_ord ok 3 (by decide) h43).2.2)) (fun h52 => ?_)
          refine W.iconst 1 d7_55 rfl ?_
          refine W.goto d7_56 ?_
          exact W.nreturn .boolean d7_60 rfl (by simp) (by decide) (by decide) (⟨rfl, rfl⟩)
      · refine W.aloadN d7_32 rfl rfl ?_
        refine W.iconst 2 d7_33 rfl ?_
        refine W.iaload (i := 2) d7_34 rfl ⟨by decide, by decide⟩ (own_get _ _ (own_ord ok 2 (by decide) h29).1) ?_
        refine W.aloadN d7_35 rfl rfl ?_
        refine W.iconst 2 d7_36 rfl ?_
        refine W.iaload (i := 2) d7_37 rfl ⟨by decide, by decide⟩ (own_get _ _ (own_ord ok 2 (by decide) h29).2.1) ?_
        refine W.icmp_ne d7_38 (fun h => False.elim (h (own_ord ok 2 (by decide) h29).2.2)) (fun h38 => ?_)
        refine W.iloadN d7_41 rfl ?_
        refine W.iconst 3 d7_42 rfl ?_
        refine W.icmp_le d7_43 (fun h43 => ?_) (fun h43 => ?_)
        · refine W.iconst 1 d7_55 rfl ?_
          refine W.goto d7_56 ?_
          exact W.nreturn .boolean d7_60 rfl (by simp) (by decide) (by decide) (⟨rfl, rfl⟩)
        · refine W.aloadN d7_46 rfl rfl ?_
          refine W.iconst 3 d7_47 rfl ?_
          refine W.iaload (i := 3) d7_48 rfl ⟨by decide, by decide⟩ (own_get _ _ (own_ord ok 3 (by decide) h43).1) ?_
          refine W.aloadN d7_49 rfl rfl ?_
          refine W.iconst 3 d7_50 rfl ?_
          refine W.iaload (i := 3) d7_51 rfl ⟨by decide, by decide⟩ (own_get _ _ (own_ord ok 3 (by decide) h43).2.1) ?_
          refine W.icmp_ne d7_52 (fun h => False.elim (h (own_ord ok 3 (by decide) h43).2.2)) (fun h52 => ?_)
          refine W.iconst 1 d7_55 rfl ?_
          refine W.goto d7_56 ?_
          exact W.nreturn .boolean d7_60 rfl (by simp) (by decide) (by decide) (⟨rfl, rfl⟩)
set_option maxRecDepth 65536 in
set_option maxHeartbeats 40000000 in
theorem w1 {l : Launch} {Z : State} {a0 : Array Value} {n : Nat} (hw : ∀ d ∈ tables_1, d.before a0 Z = true) (m : Nat) (hm : m ≤ 4) : W l Z n m1 0 (entryL [.ref 0, .int (Int32.ofNat m)] 2) [] [.inl ("boundwright/search/Reads", [(("boundwright/search/Reads", "round", "I"), (.int (0))), (("boundwright/search/Reads", "order", "[I"), .null), (("boundwright/search/Reads", "seen", "[I"), .null), (("boundwright/search/Reads", "size", "I"), (.int (0)))])] 0 0 (Is none [.inl ("boundwright/search/Reads", [(("boundwright/search/Reads", "round", "I"), (.int (1))), (("boundwright/search/Reads", "order", "[I"), (.ref 1)), (("boundwright/search/Reads", "seen", "[I"), (.ref 2)), (("boundwright/search/Reads", "size", "I"), (.int (0)))]), .inr (.int, List.replicate m (Value.int 0)), .inr (.int, List.replicate m (Value.int 0))]) := by
  show W l Z n m1 0 [(.val (.ref 0)), (.val (.int (Int32.ofNat m)))] [] [.inl ("boundwright/search/Reads", [(("boundwright/search/Reads", "round", "I"), (.int (0))), (("boundwright/search/Reads", "order", "[I"), .null), (("boundwright/search/Reads", "seen", "[I"), .null), (("boundwright/search/Reads", "size", "I"), (.int (0)))])] 0 0 _
  refine W.aloadN d1_0 rfl rfl ?_
  refine W.initO d1_1 (hw _ (wd 7 rfl)) (hw _ (wd 8 rfl)) (hw _ (wd 9 rfl)) rfl rfl ?_
  refine W.aloadN d1_4 rfl rfl ?_
  refine W.iconst 1 d1_5 rfl ?_
  refine W.putfield 0 d1_6 (hw _ (wd 10 rfl)) rfl rfl (Or.inl (hw _ (wd 11 rfl))) (hw _ (wd 2 rfl)) (ty := .int) (by decide) (fun _ => rfl) (fun _ => rfl) ?_
  refine W.aloadN d1_9 rfl rfl ?_
  refine W.iloadN d1_10 rfl ?_
  refine W.newarray (N := 1) (cnt := m) (cap := 4) d1_11 (hw _ (wd 12 rfl)) (own_idx m (by omega)) rfl (by omega) (by decide) (by decide) (by decide) ?_
  refine W.putfield 1 d1_13 (hw _ (wd 13 rfl)) rfl rfl (Or.inr ⟨hw _ (wd 14 rfl), rfl, rfl⟩) (hw _ (wd 2 rfl)) (ty := (.array .int)) (by decide) (fun _ => rfl) (fun _ => rfl) ?_
  refine W.aloadN d1_16 rfl rfl ?_
  refine W.iloadN d1_17 rfl ?_
  refine W.newarray (N := 2) (cnt := m) (cap := 4) d1_18 (hw _ (wd 12 rfl)) (own_idx m (by omega)) rfl (by omega) (by decide) (by decide) (by decide) ?_
  show WB _ l Z n m1 20 [(.val (.ref 0)), (.val (.int (Int32.ofNat m)))] [(.ref 2), (.ref 0)] [.inl ("boundwright/search/Reads", [(("boundwright/search/Reads", "round", "I"), (.int (1))), (("boundwright/search/Reads", "order", "[I"), (.ref 1)), (("boundwright/search/Reads", "seen", "[I"), .null), (("boundwright/search/Reads", "size", "I"), (.int (0)))]), .inr (.int, List.replicate m (Value.int 0)), .inr (.int, List.replicate m (Value.int 0))] _ _ _
  refine W.putfield 2 d1_20 (hw _ (wd 15 rfl)) rfl rfl (Or.inr ⟨hw _ (wd 16 rfl), rfl, rfl⟩) (hw _ (wd 2 rfl)) (ty := (.array .int)) (by decide) (fun _ => rfl) (fun _ => rfl) ?_
  exact W.leave d1_23 rfl (by decide) (by decide) (⟨rfl, rfl⟩)
set_option maxRecDepth 65536 in
set_option maxHeartbeats 40000000 in
theorem c5_0 {l : Launch} {Z : State} {a0 : Array Value} {n : Nat} (hw : ∀ d ∈ tables_1, d.before a0 Z = true) (x0 : Int32) (x1 : Int32) (l2 : List Value) (l3 : List Value) (x4 : Int32) (x5 : Int32) (l6 : List Value) : W l Z n m5 0 (entryL [(.ref 0)] 1) [] [.inl ("boundwright/search/Reads", [(("boundwright/search/Reads", "round", "I"), (.int (x0))), (("boundwright/search/Reads", "order", "[I"), (.ref 1)), (("boundwright/search/Reads", "seen", "[I"), (.ref 2)), (("boundwright/search/Reads", "size", "I"), (.int (x1)))]), .inr (.int, l2), .inr (.int, l3), .inr (.int, [(.int (x4)), (.int (x5))]), .inr (.int, l6)] 0 0 (Is (some (.int (x1))) [.inl ("boundwright/search/Reads", [(("boundwright/search/Reads", "round", "I"), (.int (x0))), (("boundwright/search/Reads", "order", "[I"), (.ref 1)), (("boundwright/search/Reads", "seen", "[I"), (.ref 2)), (("boundwright/search/Reads", "size", "I"), (.int (x1)))]), .inr (.int, l2), .inr (.int, l3), .inr (.int, [(.int (x4)), (.int (x5))]), .inr (.int, l6)]) := by
  show W l Z n m5 0 [(.val (.ref 0))] [] [.inl ("boundwright/search/Reads", [(("boundwright/search/Reads", "round", "I"), (.int (x0))), (("boundwright/search/Reads", "order", "[I"), (.ref 1)), (("boundwright/search/Reads", "seen", "[I"), (.ref 2)), (("boundwright/search/Reads", "size", "I"), (.int (x1)))]), .inr (.int, l2), .inr (.int, l3), .inr (.int, [(.int (x4)), (.int (x5))]), .inr (.int, l6)] 0 0 _
  refine W.aloadN d5_0 rfl rfl ?_
  refine W.getfield 3 d5_1 (hw _ (wd 22 rfl)) rfl rfl ?_
  exact W.ireturn d5_4 rfl (by decide) (by decide) (⟨rfl, rfl⟩)
set_option maxRecDepth 65536 in
set_option maxHeartbeats 40000000 in
theorem c6_1 {l : Launch} {Z : State} {a0 : Array Value} {n : Nat} (hw : ∀ d ∈ tables_1, d.before a0 Z = true) (x0 : Int32) (x1 : Int32) (l2 : List Value) (l3 : List Value) (x4 : Int32) (x5 : Int32) (l6 : List Value) : W l Z n m6 0 (entryL [(.ref 0)] 1) [] [.inl ("boundwright/search/Reads", [(("boundwright/search/Reads", "round", "I"), (.int (x0))), (("boundwright/search/Reads", "order", "[I"), (.ref 1)), (("boundwright/search/Reads", "seen", "[I"), (.ref 2)), (("boundwright/search/Reads", "size", "I"), (.int (x1)))]), .inr (.int, l2), .inr (.int, l3), .inr (.int, [(.int (x4)), (.int (x5))]), .inr (.int, l6)] 0 0 (Is (some (.ref 1)) [.inl ("boundwright/search/Reads", [(("boundwright/search/Reads", "round", "I"), (.int (x0))), (("boundwright/search/Reads", "order", "[I"), (.ref 1)), (("boundwright/search/Reads", "seen", "[I"), (.ref 2)), (("boundwright/search/Reads", "size", "I"), (.int (x1)))]), .inr (.int, l2), .inr (.int, l3), .inr (.int, [(.int (x4)), (.int (x5))]), .inr (.int, l6)]) := by
  show W l Z n m6 0 [(.val (.ref 0))] [] [.inl ("boundwright/search/Reads", [(("boundwright/search/Reads", "round", "I"), (.int (x0))), (("boundwright/search/Reads", "order", "[I"), (.ref 1)), (("boundwright/search/Reads", "seen", "[I"), (.ref 2)), (("boundwright/search/Reads", "size", "I"), (.int (x1)))]), .inr (.int, l2), .inr (.int, l3), .inr (.int, [(.int (x4)), (.int (x5))]), .inr (.int, l6)] 0 0 _
  refine W.aloadN d6_0 rfl rfl ?_
  refine W.getfield 1 d6_1 (hw _ (wd 13 rfl)) rfl rfl ?_
  exact W.areturn d6_4 rfl rfl rfl (by decide) (by decide) (⟨rfl, rfl⟩)
theorem own_r1 (p : Nat) (s : OS) : (recS p s).2.2.1 = s.2.2.1 := by unfold recS; split <;> rfl
theorem own_sz {s : OS} {t : OT} (h : ordOk s t = true) : s.2.2.2 = t.2.1 := by
  simp only [ordOk, Bool.and_eq_true, decide_eq_true_eq] at h
  exact h.1
theorem own_rd (s : OS) (e : s.2.2.1 = 1) : ¬ s.2.2.1 + 1 = 0 := by rw [e] <;> decide
theorem own_nz (m : Nat) (hm : 0 < m ∧ m < 5) : Int32.ofNat m ≠ 0 := fun q => by
  have e := congrArg Int32.toInt q
  rw [own_i (by omega)] at e
  have : (0 : Int32).toInt = 0 := rfl
  omega
def all_0 (m p0 p1 p2 p3 : Nat) : Bool := (recOk p0 (s0 m) && stpOk p0 t0 && decide (recR p0 (s0 m) = stpR p0 t0)) && (recOk p1 (recS p0 (s0 m)) && stpOk p1 (stpS p0 t0) && decide (recR p1 (recS p0 (s0 m)) = stpR p1 (stpS p0 t0))) && (recOk p2 (recS p1 (recS p0 (s0 m))) && stpOk p2 (stpS p1 (stpS p0 t0)) && decide (recR p2 (recS p1 (recS p0 (s0 m))) = stpR p2 (stpS p1 (stpS p0 t0)))) && (recOk p3 (recS p2 (recS p1 (recS p0 (s0 m)))) && stpOk p3 (stpS p2 (stpS p1 (stpS p0 t0))) && decide (recR p3 (recS p2 (recS p1 (recS p0 (s0 m)))) = stpR p3 (stpS p2 (stpS p1 (stpS p0 t0))))) && ordOk (recS p3 (recS p2 (recS p1 (recS p0 (s0 m))))) (stpS p3 (stpS p2 (stpS p1 (stpS p0 t0))))
theorem own_all0 : (List.range 4).all (fun m => (List.range (m + 1)).all fun p0 => (List.range (m + 1)).all fun p1 => (List.range (m + 1)).all fun p2 => (List.range (m + 1)).all fun p3 => all_0 (m + 1) p0 p1 p2 p3) = true := by decide +kernel
theorem own_each0 (m p0 p1 p2 p3 : Nat) (hm : 0 < m ∧ m < 5) (h0 : p0 < m) (h1 : p1 < m) (h2 : p2 < m) (h3 : p3 < m) : all_0 m p0 p1 p2 p3 = true := by
  have h := own_all0
  simp only [List.all_eq_true, List.mem_range] at h
  have := h (m - 1) (by omega) p0 (by omega) p1 (by omega) p2 (by omega) p3 (by omega)
  rwa [show m - 1 + 1 = m by omega] at this
def all_1 (m p0 p1 p2 p3 : Nat) : Bool := (recOk p0 (s0 m) && stpOk p0 t0 && decide (recR p0 (s0 m) = stpR p0 t0)) && (recOk p1 (clrS (recS p0 (s0 m))) && stpOk p1 (rstS (stpS p0 t0)) && decide (recR p1 (clrS (recS p0 (s0 m))) = stpR p1 (rstS (stpS p0 t0)))) && (recOk p2 (recS p1 (clrS (recS p0 (s0 m)))) && stpOk p2 (stpS p1 (rstS (stpS p0 t0))) && decide (recR p2 (recS p1 (clrS (recS p0 (s0 m)))) = stpR p2 (stpS p1 (rstS (stpS p0 t0))))) && (recOk p3 (recS p2 (recS p1 (clrS (recS p0 (s0 m))))) && stpOk p3 (stpS p2 (stpS p1 (rstS (stpS p0 t0)))) && decide (recR p3 (recS p2 (recS p1 (clrS (recS p0 (s0 m))))) = stpR p3 (stpS p2 (stpS p1 (rstS (stpS p0 t0)))))) && ordOk (recS p3 (recS p2 (recS p1 (clrS (recS p0 (s0 m)))))) (stpS p3 (stpS p2 (stpS p1 (rstS (stpS p0 t0)))))
theorem own_all1 : (List.range 4).all (fun m => (List.range (m + 1)).all fun p0 => (List.range (m + 1)).all fun p1 => (List.range (m + 1)).all fun p2 => (List.range (m + 1)).all fun p3 => all_1 (m + 1) p0 p1 p2 p3) = true := by decide +kernel
theorem own_each1 (m p0 p1 p2 p3 : Nat) (hm : 0 < m ∧ m < 5) (h0 : p0 < m) (h1 : p1 < m) (h2 : p2 < m) (h3 : p3 < m) : all_1 m p0 p1 p2 p3 = true := by
  have h := own_all1
  simp only [List.all_eq_true, List.mem_range] at h
  have := h (m - 1) (by omega) p0 (by omega) p1 (by omega) p2 (by omega) p3 (by omega)
  rwa [show m - 1 + 1 = m by omega] at this
def all_2 (m p0 p1 p2 p3 : Nat) : Bool := (recOk p0 (s0 m) && stpOk p0 t0 && decide (recR p0 (s0 m) = stpR p0 t0)) && (recOk p1 (recS p0 (s0 m)) && stpOk p1 (stpS p0 t0) && decide (recR p1 (recS p0 (s0 m)) = stpR p1 (stpS p0 t0))) && (recOk p2 (clrS (recS p1 (recS p0 (s0 m)))) && stpOk p2 (rstS (stpS p1 (stpS p0 t0))) && decide (recR p2 (clrS (recS p1 (recS p0 (s0 m)))) = stpR p2 (rstS (stpS p1 (stpS p0 t0))))) && (recOk p3 (recS p2 (clrS (recS p1 (recS p0 (s0 m))))) && stpOk p3 (stpS p2 (rstS (stpS p1 (stpS p0 t0)))) && decide (recR p3 (recS p2 (clrS (recS p1 (recS p0 (s0 m))))) = stpR p3 (stpS p2 (rstS (stpS p1 (stpS p0 t0)))))) && ordOk (recS p3 (recS p2 (clrS (recS p1 (recS p0 (s0 m)))))) (stpS p3 (stpS p2 (rstS (stpS p1 (stpS p0 t0)))))
theorem own_all2 : (List.range 4).all (fun m => (List.range (m + 1)).all fun p0 => (List.range (m + 1)).all fun p1 => (List.range (m + 1)).all fun p2 => (List.range (m + 1)).all fun p3 => all_2 (m + 1) p0 p1 p2 p3) = true := by decide +kernel
theorem own_each2 (m p0 p1 p2 p3 : Nat) (hm : 0 < m ∧ m < 5) (h0 : p0 < m) (h1 : p1 < m) (h2 : p2 < m) (h3 : p3 < m) : all_2 m p0 p1 p2 p3 = true := by
  have h := own_all2
  simp only [List.all_eq_true, List.mem_range] at h
  have := h (m - 1) (by omega) p0 (by omega) p1 (by omega) p2 (by omega) p3 (by omega)
  rwa [show m - 1 + 1 = m by omega] at this
def all_3 (m p0 p1 p2 p3 : Nat) : Bool := (recOk p0 (s0 m) && stpOk p0 t0 && decide (recR p0 (s0 m) = stpR p0 t0)) && (recOk p1 (recS p0 (s0 m)) && stpOk p1 (stpS p0 t0) && decide (recR p1 (recS p0 (s0 m)) = stpR p1 (stpS p0 t0))) && (recOk p2 (recS p1 (recS p0 (s0 m))) && stpOk p2 (stpS p1 (stpS p0 t0)) && decide (recR p2 (recS p1 (recS p0 (s0 m))) = stpR p2 (stpS p1 (stpS p0 t0)))) && (recOk p3 (clrS (recS p2 (recS p1 (recS p0 (s0 m))))) && stpOk p3 (rstS (stpS p2 (stpS p1 (stpS p0 t0)))) && decide (recR p3 (clrS (recS p2 (recS p1 (recS p0 (s0 m))))) = stpR p3 (rstS (stpS p2 (stpS p1 (stpS p0 t0)))))) && ordOk (recS p3 (clrS (recS p2 (recS p1 (recS p0 (s0 m)))))) (stpS p3 (rstS (stpS p2 (stpS p1 (stpS p0 t0)))))
theorem own_all3 : (List.range 4).all (fun m => (List.range (m + 1)).all fun p0 => (List.range (m + 1)).all fun p1 => (List.range (m + 1)).all fun p2 => (List.range (m + 1)).all fun p3 => all_3 (m + 1) p0 p1 p2 p3) = true := by decide +kernel
theorem own_each3 (m p0 p1 p2 p3 : Nat) (hm : 0 < m ∧ m < 5) (h0 : p0 < m) (h1 : p1 < m) (h2 : p2 < m) (h3 : p3 < m) : all_3 m p0 p1 p2 p3 = true := by
  have h := own_all3
  simp only [List.all_eq_true, List.mem_range] at h
  have := h (m - 1) (by omega) p0 (by omega) p1 (by omega) p2 (by omega) p3 (by omega)
  rwa [show m - 1 + 1 = m by omega] at this
set_option maxRecDepth 65536 in
set_option maxHeartbeats 40000000 in
theorem law0 {l : Launch} {Z : State} {a0 : Array Value} {n : Nat} (hw : ∀ d ∈ tables_1, d.before a0 Z = true) (md a b e f : Int32) (m p0 p1 p2 p3 : Nat) (hm : 0 < m ∧ m < 5) (h0 : p0 < m) (h1 : p1 < m) (h2 : p2 < m) (h3 : p3 < m) : W l Z n m0 51 [(.val (.int (md))), (.val (.int (a))), (.val (.int (b))), (.val (.int (e))), (.val (.int (f))), (.val (.int (Int32.ofNat m))), (.val (.int (0))), (.val (.int (Int32.ofNat p0))), (.val (.int (Int32.ofNat p1))), (.val (.int (Int32.ofNat p2))), (.val (.int (Int32.ofNat p3))), .unset, .unset, .unset, .unset, .unset, .unset, .unset, .unset, .unset, .unset, .unset, .unset, .unset, .unset] [] [] 0 0 (fun v _ => v = some (.int 1)) := by
  have hq := own_each0 m p0 p1 p2 p3 hm h0 h1 h2 h3
  simp only [all_0, Bool.and_eq_true, decide_eq_true_eq] at hq
  obtain ⟨⟨⟨⟨u0, u1⟩, u2⟩, u3⟩, u4⟩ := hq
  have u4' := own_sz u4
  refine W.new (N := 0) d0_51 (hw _ (wd 1 rfl)) (okc0 hw) rfl (by decide) (by decide) ?_
  refine W.dup d0_54 rfl ?_
  refine W.iload d0_55 rfl ?_
  refine W.initN (M' := m1) d0_57 rfl rfl (hw _ (wd 4 rfl)) (hw _ (wd 5 rfl)) (w1 hw m (by omega)) (ok1 hw) rfl rfl rfl ?_
  refine W.astore d0_60 rfl rfl ?_
  refine W.iconst 2 d0_62 rfl ?_
  refine W.newarray (N := 3) (cnt := 2) (cap := 2) d0_63 (hw _ (wd 12 rfl)) ⟨by decide, by decide⟩ rfl (Nat.le_refl _) (by decide) (by decide) (by decide) ?_
  refine W.astore d0_65 rfl rfl ?_
  show WB _ l Z n m0 67 [(.val (.int (md))), (.val (.int (a))), (.val (.int (b))), (.val (.int (e))), (.val (.int (f))), (.val (.int (Int32.ofNat m))), (.val (.int (0))), (.val (.int (Int32.ofNat p0))), (.val (.int (Int32.ofNat p1))), (.val (.int (Int32.ofNat p2))), (.val (.int (Int32.ofNat p3))), (.val (.ref 0)), (.val (.ref 3)), .unset, .unset, .unset, .unset, .unset, .unset, .unset, .unset, .unset, .unset, .unset, .unset] [] [.inl ("boundwright/search/Reads", [(("boundwright/search/Reads", "round", "I"), (.int (1))), (("boundwright/search/Reads", "order", "[I"), (.ref 1)), (("boundwright/search/Reads", "seen", "[I"), (.ref 2)), (("boundwright/search/Reads", "size", "I"), (.int (0)))]), .inr (.int, List.replicate m (Value.int 0)), .inr (.int, List.replicate m (Value.int 0)), .inr (.int, [(.int (0)), (.int (0))])] _ _ _
  refine W.iconst 4 d0_67 rfl ?_
  refine W.newarray (N := 4) (cnt := 4) (cap := 4) d0_68 (hw _ (wd 12 rfl)) ⟨by decide, by decide⟩ rfl (Nat.le_refl _) (by decide) (by decide) (by decide) ?_
  refine W.astore d0_70 rfl rfl ?_
  refine W.iconst 1 d0_72 rfl ?_
  refine W.istore d0_73 rfl ?_
  have e0 : List.replicate m (Value.int 0) = (s0 m).1.map Value.int := by simp [s0]
  rw [e0]
  show W l Z n m0 75 [(.val (.int (md))), (.val (.int (a))), (.val (.int (b))), (.val (.int (e))), (.val (.int (f))), (.val (.int (Int32.ofNat m))), (.val (.int (0))), (.val (.int (Int32.ofNat p0))), (.val (.int (Int32.ofNat p1))), (.val (.int (Int32.ofNat p2))), (.val (.int (Int32.ofNat p3))), (.val (.ref 0)), (.val (.ref 3)), (.val (.ref 4)), (.val (.int (1))), .unset, .unset, .unset, .unset, .unset, .unset, .unset, .unset, .unset, .unset] [] [.inl ("boundwright/search/Reads", [(("boundwright/search/Reads", "round", "I"), (.int ((s0 m).2.2.1))), (("boundwright/search/Reads", "order", "[I"), (.ref 1)), (("boundwright/search/Reads", "seen", "[I"), (.ref 2)), (("boundwright/search/Reads", "size", "I"), (.int ((s0 m).2.2.2)))]), .inr (.int, (s0 m).2.1.map Value.int), .inr (.int, (s0 m).1.map Value.int), .inr (.int, [(.int (t0.1)), (.int (t0.2.1))]), .inr (.int, t0.2.2.map Value.int)] _ _ _
  refine W.aload d0_75 rfl rfl ?_
  refine W.iload d0_77 rfl ?_
  refine W.callvV (M' := m3) d0_79 (hw _ (wd 17 rfl)) (hw _ (wd 18 rfl)) (hw _ (wd 19 rfl)) (hw _ (wd 20 rfl)) (w3 hw p0 (s0 m) t0 (by omega) u0.1.1) (ok3 hw) rfl rfl rfl rfl ?_
  refine W.istore d0_82 rfl ?_
  show WB _ l Z n m0 84 [(.val (.int (md))), (.val (.int (a))), (.val (.int (b))), (.val (.int (e))), (.val (.int (f))), (.val (.int (Int32.ofNat m))), (.val (.int (0))), (.val (.int (Int32.ofNat p0))), (.val (.int (Int32.ofNat p1))), (.val (.int (Int32.ofNat p2))), (.val (.int (Int32.ofNat p3))), (.val (.ref 0)), (.val (.ref 3)), (.val (.ref 4)), (.val (.int (1))), (.val (.int (recR p0 (s0 m)))), .unset, .unset, .unset, .unset, .unset, .unset, .unset, .unset, .unset] [] [.inl ("boundwright/search/Reads", [(("boundwright/search/Reads", "round", "I"), (.int ((recS p0 (s0 m)).2.2.1))), (("boundwright/search/Reads", "order", "[I"), (.ref 1)), (("boundwright/search/Reads", "seen", "[I"), (.ref 2)), (("boundwright/search/Reads", "size", "I"), (.int ((recS p0 (s0 m)).2.2.2)))]), .inr (.int, (recS p0 (s0 m)).2.1.map Value.int), .inr (.int, (recS p0 (s0 m)).1.map Value.int), .inr (.int, [(.int (t0.1)), (.int (t0.2.1))]), .inr (.int, t0.2.2.map Value.int)] _ _ _
  refine W.aload d0_84 rfl rfl ?_
  refine W.aload d0_86 rfl rfl ?_
  refine W.iload d0_88 rfl ?_
  refine W.callsV (M' := m4) d0_90 (hw _ (wd 24 rfl)) (hw _ (wd 25 rfl)) (w4 hw p0 (recS p0 (s0 m)) t0 (by omega) u0.1.2) (ok4 hw) rfl rfl rfl ?_
  refine W.istore d0_93 rfl ?_
  refine W.iload d0_95 rfl ?_
  refine W.if_eq d0_97 (fun h => False.elim (by revert h; decide)) (fun h97 => ?_)
  refine W.iload d0_100 rfl ?_
  refine W.iload d0_102 rfl ?_
  refine W.icmp_ne d0_104 (fun h => False.elim (h u0.2)) (fun h104 => ?_)
  refine W.iconst 1 d0_107 rfl ?_
  refine W.goto d0_108 ?_
  refine W.istore d0_112 rfl ?_
  refine W.iload d0_114 rfl ?_
  refine W.iconst 1 d0_116 rfl ?_
  refine W.icmp_ne d0_117 (fun h117 => ?_) (fun h => False.elim (by revert h; decide))
  refine W.aload d0_130 rfl rfl ?_
  refine W.iload d0_132 rfl ?_
  refine W.callvV (M' := m3) d0_134 (hw _ (wd 17 rfl)) (hw _ (wd 18 rfl)) (hw _ (wd 19 rfl)) (hw _ (wd 20 rfl)) (w3 hw p1 (recS p0 (s0 m)) (stpS p0 t0) (by omega) u1.1.1) (ok3 hw) rfl rfl rfl rfl ?_
  refine W.istore d0_137 rfl ?_
  refine W.aload d0_139 rfl rfl ?_
  refine W.aload d0_141 rfl rfl ?_
  refine W.iload d0_143 rfl ?_
  refine W.callsV (M' := m4) d0_145 (hw _ (wd 24 rfl)) (hw _ (wd 25 rfl)) (w4 hw p1 (recS p1 (recS p0 (s0 m))) (stpS p0 t0) (by omega) u1.1.2) (ok4 hw) rfl rfl rfl ?_
  refine W.istore d0_148 rfl ?_
  show WB _ l Z n m0 150 [(.val (.int (md))), (.val (.int (a))), (.val (.int (b))), (.val (.int (e))), (.val (.int (f))), (.val (.int (Int32.ofNat m))), (.val (.int (0))), (.val (.int (Int32.ofNat p0))), (.val (.int (Int32.ofNat p1))), (.val (.int (Int32.ofNat p2))), (.val (.int (Int32.ofNat p3))), (.val (.ref 0)), (.val (.ref 3)), (.val (.ref 4)), (.val (.int (1))), (.val (.int (recR p0 (s0 m)))), (.val (.int (stpR p0 t0))), (.val (.int (recR p1 (recS p0 (s0 m))))), (.val (.int (stpR p1 (stpS p0 t0)))), .unset, .unset, .unset, .unset, .unset, .unset] [] [.inl ("boundwright/search/Reads", [(("boundwright/search/Reads", "round", "I"), (.int ((recS p1 (recS p0 (s0 m))).2.2.1))), (("boundwright/search/Reads", "order", "[I"), (.ref 1)), (("boundwright/search/Reads", "seen", "[I"), (.ref 2)), (("boundwright/search/Reads", "size", "I"), (.int ((recS p1 (recS p0 (s0 m))).2.2.2)))]), .inr (.int, (recS p1 (recS p0 (s0 m))).2.1.map Value.int), .inr (.int, (recS p1 (recS p0 (s0 m))).1.map Value.int), .inr (.int, [(.int ((stpS p1 (stpS p0 t0)).1)), (.int ((stpS p1 (stpS p0 t0)).2.1))]), .inr (.int, (stpS p1 (stpS p0 t0)).2.2.map Value.int)] _ _ _
  refine W.iload d0_150 rfl ?_
  refine W.if_eq d0_152 (fun h => False.elim (by revert h; decide)) (fun h152 => ?_)
  refine W.iload d0_155 rfl ?_
  refine W.iload d0_157 rfl ?_
  refine W.icmp_ne d0_159 (fun h => False.elim (h u1.2)) (fun h159 => ?_)
  refine W.iconst 1 d0_162 rfl ?_
  refine W.goto d0_163 ?_
  refine W.istore d0_167 rfl ?_
  refine W.iload d0_169 rfl ?_
  refine W.iconst 2 d0_171 rfl ?_
  refine W.icmp_ne d0_172 (fun h172 => ?_) (fun h => False.elim (by revert h; decide))
  refine W.aload d0_185 rfl rfl ?_
  refine W.iload d0_187 rfl ?_
  refine W.callvV (M' := m3) d0_189 (hw _ (wd 17 rfl)) (hw _ (wd 18 rfl)) (hw _ (wd 19 rfl)) (hw _ (wd 20 rfl)) (w3 hw p2 (recS p1 (recS p0 (s0 m))) (stpS p1 (stpS p0 t0)) (by omega) u2.1.1) (ok3 hw) rfl rfl rfl rfl ?_
  refine W.istore d0_192 rfl ?_
  refine W.aload d0_194 rfl rfl ?_
  refine W.aload d0_196 rfl rfl ?_
  refine W.iload d0_198 rfl ?_
  refine W.callsV (M' := m4) d0_200 (hw _ (wd 24 rfl)) (hw _ (wd 25 rfl)) (w4 hw p2 (recS p2 (recS p1 (recS p0 (s0 m)))) (stpS p1 (stpS p0 t0)) (by omega) u2.1.2) (ok4 hw) rfl rfl rfl ?_
  refine W.istore d0_203 rfl ?_
  refine W.iload d0_205 rfl ?_
  refine W.if_eq d0_207 (fun h => False.elim (by revert h; decide)) (fun h207 => ?_)
  refine W.iload d0_210 rfl ?_
  refine W.iload d0_212 rfl ?_
  refine W.icmp_ne d0_214 (fun h => False.elim (h u2.2)) (fun h214 => ?_)
  refine W.iconst 1 d0_217 rfl ?_
  refine W.goto d0_218 ?_
  refine W.istore d0_222 rfl ?_
  show WB _ l Z n m0 224 [(.val (.int (md))), (.val (.int (a))), (.val (.int (b))), (.val (.int (e))), (.val (.int (f))), (.val (.int (Int32.ofNat m))), (.val (.int (0))), (.val (.int (Int32.ofNat p0))), (.val (.int (Int32.ofNat p1))), (.val (.int (Int32.ofNat p2))), (.val (.int (Int32.ofNat p3))), (.val (.ref 0)), (.val (.ref 3)), (.val (.ref 4)), (.val (.int (1))), (.val (.int (recR p0 (s0 m)))), (.val (.int (stpR p0 t0))), (.val (.int (recR p1 (recS p0 (s0 m))))), (.val (.int (stpR p1 (stpS p0 t0)))), (.val (.int (recR p2 (recS p1 (recS p0 (s0 m)))))), (.val (.int (stpR p2 (stpS p1 (stpS p0 t0))))), .unset, .unset, .unset, .unset] [] [.inl ("boundwright/search/Reads", [(("boundwright/search/Reads", "round", "I"), (.int ((recS p2 (recS p1 (recS p0 (s0 m)))).2.2.1))), (("boundwright/search/Reads", "order", "[I"), (.ref 1)), (("boundwright/search/Reads", "seen", "[I"), (.ref 2)), (("boundwright/search/Reads", "size", "I"), (.int ((recS p2 (recS p1 (recS p0 (s0 m)))).2.2.2)))]), .inr (.int, (recS p2 (recS p1 (recS p0 (s0 m)))).2.1.map Value.int), .inr (.int, (recS p2 (recS p1 (recS p0 (s0 m)))).1.map Value.int), .inr (.int, [(.int ((stpS p2 (stpS p1 (stpS p0 t0))).1)), (.int ((stpS p2 (stpS p1 (stpS p0 t0))).2.1))]), .inr (.int, (stpS p2 (stpS p1 (stpS p0 t0))).2.2.map Value.int)] _ _ _
  refine W.iload d0_224 rfl ?_
  refine W.iconst 3 d0_226 rfl ?_
  refine W.icmp_ne d0_227 (fun h227 => ?_) (fun h => False.elim (by revert h; decide))
  refine W.aload d0_240 rfl rfl ?_
  refine W.iload d0_242 rfl ?_
  refine W.callvV (M' := m3) d0_244 (hw _ (wd 17 rfl)) (hw _ (wd 18 rfl)) (hw _ (wd 19 rfl)) (hw _ (wd 20 rfl)) (w3 hw p3 (recS p2 (recS p1 (recS p0 (s0 m)))) (stpS p2 (stpS p1 (stpS p0 t0))) (by omega) u3.1.1) (ok3 hw) rfl rfl rfl rfl ?_
  refine W.istore d0_247 rfl ?_
  refine W.aload d0_249 rfl rfl ?_
  refine W.aload d0_251 rfl rfl ?_
  refine W.iload d0_253 rfl ?_
  refine W.callsV (M' := m4) d0_255 (hw _ (wd 24 rfl)) (hw _ (wd 25 rfl)) (w4 hw p3 (recS p3 (recS p2 (recS p1 (recS p0 (s0 m))))) (stpS p2 (stpS p1 (stpS p0 t0))) (by omega) u3.1.2) (ok4 hw) rfl rfl rfl ?_
  refine W.istore d0_258 rfl ?_
  refine W.iload d0_260 rfl ?_
  refine W.if_eq d0_262 (fun h => False.elim (by revert h; decide)) (fun h262 => ?_)
  refine W.iload d0_265 rfl ?_
  refine W.iload d0_267 rfl ?_
  refine W.icmp_ne d0_269 (fun h => False.elim (h u3.2)) (fun h269 => ?_)
  refine W.iconst 1 d0_272 rfl ?_
  refine W.goto d0_273 ?_
  refine W.istore d0_277 rfl ?_
  refine W.aload d0_279 rfl rfl ?_
  refine W.callvV (M' := m5) d0_281 (hw _ (wd 28 rfl)) (hw _ (wd 29 rfl)) (hw _ (wd 30 rfl)) (hw _ (wd 31 rfl)) (c5_0 hw ((recS p3 (recS p2 (recS p1 (recS p0 (s0 m))))).2.2.1) ((recS p3 (recS p2 (recS p1 (recS p0 (s0 m))))).2.2.2) ((recS p3 (recS p2 (recS p1 (recS p0 (s0 m))))).2.1.map Value.int) ((recS p3 (recS p2 (recS p1 (recS p0 (s0 m))))).1.map Value.int) ((stpS p3 (stpS p2 (stpS p1 (stpS p0 t0)))).1) ((stpS p3 (stpS p2 (stpS p1 (stpS p0 t0)))).2.1) ((stpS p3 (stpS p2 (stpS p1 (stpS p0 t0)))).2.2.map Value.int)) (ok5 hw) rfl rfl rfl rfl ?_
  refine W.istore d0_284 rfl ?_
  show WB _ l Z n m0 286 [(.val (.int (md))), (.val (.int (a))), (.val (.int (b))), (.val (.int (e))), (.val (.int (f))), (.val (.int (Int32.ofNat m))), (.val (.int (0))), (.val (.int (Int32.ofNat p0))), (.val (.int (Int32.ofNat p1))), (.val (.int (Int32.ofNat p2))), (.val (.int (Int32.ofNat p3))), (.val (.ref 0)), (.val (.ref 3)), (.val (.ref 4)), (.val (.int (1))), (.val (.int (recR p0 (s0 m)))), (.val (.int (stpR p0 t0))), (.val (.int (recR p1 (recS p0 (s0 m))))), (.val (.int (stpR p1 (stpS p0 t0)))), (.val (.int (recR p2 (recS p1 (recS p0 (s0 m)))))), (.val (.int (stpR p2 (stpS p1 (stpS p0 t0))))), (.val (.int (recR p3 (recS p2 (recS p1 (recS p0 (s0 m))))))), (.val (.int (stpR p3 (stpS p2 (stpS p1 (stpS p0 t0)))))), (.val (.int (((recS p3 (recS p2 (recS p1 (recS p0 (s0 m))))).2.2.2)))), .unset] [] [.inl ("boundwright/search/Reads", [(("boundwright/search/Reads", "round", "I"), (.int (((recS p3 (recS p2 (recS p1 (recS p0 (s0 m))))).2.2.1)))), (("boundwright/search/Reads", "order", "[I"), (.ref 1)), (("boundwright/search/Reads", "seen", "[I"), (.ref 2)), (("boundwright/search/Reads", "size", "I"), (.int (((recS p3 (recS p2 (recS p1 (recS p0 (s0 m))))).2.2.2))))]), .inr (.int, ((recS p3 (recS p2 (recS p1 (recS p0 (s0 m))))).2.1.map Value.int)), .inr (.int, ((recS p3 (recS p2 (recS p1 (recS p0 (s0 m))))).1.map Value.int)), .inr (.int, [(.int (((stpS p3 (stpS p2 (stpS p1 (stpS p0 t0)))).1))), (.int (((stpS p3 (stpS p2 (stpS p1 (stpS p0 t0)))).2.1)))]), .inr (.int, ((stpS p3 (stpS p2 (stpS p1 (stpS p0 t0)))).2.2.map Value.int))] _ _ _
  refine W.aload d0_286 rfl rfl ?_
  refine W.callvV (M' := m6) d0_288 (hw _ (wd 33 rfl)) (hw _ (wd 34 rfl)) (hw _ (wd 35 rfl)) (hw _ (wd 36 rfl)) (c6_1 hw ((recS p3 (recS p2 (recS p1 (recS p0 (s0 m))))).2.2.1) ((recS p3 (recS p2 (recS p1 (recS p0 (s0 m))))).2.2.2) ((recS p3 (recS p2 (recS p1 (recS p0 (s0 m))))).2.1.map Value.int) ((recS p3 (recS p2 (recS p1 (recS p0 (s0 m))))).1.map Value.int) ((stpS p3 (stpS p2 (stpS p1 (stpS p0 t0)))).1) ((stpS p3 (stpS p2 (stpS p1 (stpS p0 t0)))).2.1) ((stpS p3 (stpS p2 (stpS p1 (stpS p0 t0)))).2.2.map Value.int)) (ok6 hw) rfl rfl rfl rfl ?_
  refine W.astore d0_291 rfl rfl ?_
  refine W.iload d0_293 rfl ?_
  refine W.if_eq d0_295 (fun h => False.elim (by revert h; decide)) (fun h295 => ?_)
  refine W.iload d0_298 rfl ?_
  refine W.aload d0_300 rfl rfl ?_
  refine W.iconst 1 d0_302 rfl ?_
  refine W.iaload (i := 1) d0_303 rfl ⟨by decide, by decide⟩ rfl ?_
  refine W.icmp_ne d0_304 (fun h => False.elim (h u4')) (fun h304 => ?_)
  refine W.aload d0_307 rfl rfl ?_
  refine W.aload d0_309 rfl rfl ?_
  refine W.aload d0_311 rfl rfl ?_
  refine W.iconst 1 d0_313 rfl ?_
  refine W.iaload (i := 1) d0_314 rfl ⟨by decide, by decide⟩ rfl ?_
  refine W.callsV (M' := m7) d0_315 (hw _ (wd 38 rfl)) (hw _ (wd 39 rfl)) (w7 hw (recS p3 (recS p2 (recS p1 (recS p0 (s0 m))))) (stpS p3 (stpS p2 (stpS p1 (stpS p0 t0)))) u4) (ok7 hw) rfl rfl rfl ?_
  refine W.if_eq d0_318 (fun h => False.elim (by revert h; decide)) (fun h318 => ?_)
  refine W.iconst 1 d0_321 rfl ?_
  refine W.goto d0_322 ?_
  exact W.nreturn .boolean d0_326 rfl (by simp) (by decide) (by decide) (rfl)
set_option maxRecDepth 65536 in
set_option maxHeartbeats 40000000 in
theorem law1 {l : Launch} {Z : State} {a0 : Array Value} {n : Nat} (hw : ∀ d ∈ tables_1, d.before a0 Z = true) (md a b e f : Int32) (m p0 p1 p2 p3 : Nat) (hm : 0 < m ∧ m < 5) (h0 : p0 < m) (h1 : p1 < m) (h2 : p2 < m) (h3 : p3 < m) : W l Z n m0 51 [(.val (.int (md))), (.val (.int (a))), (.val (.int (b))), (.val (.int (e))), (.val (.int (f))), (.val (.int (Int32.ofNat m))), (.val (.int (1))), (.val (.int (Int32.ofNat p0))), (.val (.int (Int32.ofNat p1))), (.val (.int (Int32.ofNat p2))), (.val (.int (Int32.ofNat p3))), .unset, .unset, .unset, .unset, .unset, .unset, .unset, .unset, .unset, .unset, .unset, .unset, .unset, .unset] [] [] 0 0 (fun v _ => v = some (.int 1)) := by
  have hq := own_each1 m p0 p1 p2 p3 hm h0 h1 h2 h3
  simp only [all_1, Bool.and_eq_true, decide_eq_true_eq] at hq
  obtain ⟨⟨⟨⟨u0, u1⟩, u2⟩, u3⟩, u4⟩ := hq
  have u4' := own_sz u4
  refine W.new (N := 0) d0_51 (hw _ (wd 1 rfl)) (okc0 hw) rfl (by decide) (by decide) ?_
  refine W.dup d0_54 rfl ?_
  refine W.iload d0_55 rfl ?_
  refine W.initN (M' := m1) d0_57 rfl rfl (hw _ (wd 4 rfl)) (hw _ (wd 5 rfl)) (w1 hw m (by omega)) (ok1 hw) rfl rfl rfl ?_
  refine W.astore d0_60 rfl rfl ?_
  refine W.iconst 2 d0_62 rfl ?_
  refine W.newarray (N := 3) (cnt := 2) (cap := 2) d0_63 (hw _ (wd 12 rfl)) ⟨by decide, by decide⟩ rfl (Nat.le_refl _) (by decide) (by decide) (by decide) ?_
  refine W.astore d0_65 rfl rfl ?_
  show WB _ l Z n m0 67 [(.val (.int (md))), (.val (.int (a))), (.val (.int (b))), (.val (.int (e))), (.val (.int (f))), (.val (.int (Int32.ofNat m))), (.val (.int (1))), (.val (.int (Int32.ofNat p0))), (.val (.int (Int32.ofNat p1))), (.val (.int (Int32.ofNat p2))), (.val (.int (Int32.ofNat p3))), (.val (.ref 0)), (.val (.ref 3)), .unset, .unset, .unset, .unset, .unset, .unset, .unset, .unset, .unset, .unset, .unset, .unset] [] [.inl ("boundwright/search/Reads", [(("boundwright/search/Reads", "round", "I"), (.int (1))), (("boundwright/search/Reads", "order", "[I"), (.ref 1)), (("boundwright/search/Reads", "seen", "[I"), (.ref 2)), (("boundwright/search/Reads", "size", "I"), (.int (0)))]), .inr (.int, List.replicate m (Value.int 0)), .inr (.int, List.replicate m (Value.int 0)), .inr (.int, [(.int (0)), (.int (0))])] _ _ _
  refine W.iconst 4 d0_67 rfl ?_
  refine W.newarray (N := 4) (cnt := 4) (cap := 4) d0_68 (hw _ (wd 12 rfl)) ⟨by decide, by decide⟩ rfl (Nat.le_refl _) (by decide) (by decide) (by decide) ?_
  refine W.astore d0_70 rfl rfl ?_
  refine W.iconst 1 d0_72 rfl ?_
  refine W.istore d0_73 rfl ?_
  have e0 : List.replicate m (Value.int 0) = (s0 m).1.map Value.int := by simp [s0]
  rw [e0]
  show W l Z n m0 75 [(.val (.int (md))), (.val (.int (a))), (.val (.int (b))), (.val (.int (e))), (.val (.int (f))), (.val (.int (Int32.ofNat m))), (.val (.int (1))), (.val (.int (Int32.ofNat p0))), (.val (.int (Int32.ofNat p1))), (.val (.int (Int32.ofNat p2))), (.val (.int (Int32.ofNat p3))), (.val (.ref 0)), (.val (.ref 3)), (.val (.ref 4)), (.val (.int (1))), .unset, .unset, .unset, .unset, .unset, .unset, .unset, .unset, .unset, .unset] [] [.inl ("boundwright/search/Reads", [(("boundwright/search/Reads", "round", "I"), (.int ((s0 m).2.2.1))), (("boundwright/search/Reads", "order", "[I"), (.ref 1)), (("boundwright/search/Reads", "seen", "[I"), (.ref 2)), (("boundwright/search/Reads", "size", "I"), (.int ((s0 m).2.2.2)))]), .inr (.int, (s0 m).2.1.map Value.int), .inr (.int, (s0 m).1.map Value.int), .inr (.int, [(.int (t0.1)), (.int (t0.2.1))]), .inr (.int, t0.2.2.map Value.int)] _ _ _
  refine W.aload d0_75 rfl rfl ?_
  refine W.iload d0_77 rfl ?_
  refine W.callvV (M' := m3) d0_79 (hw _ (wd 17 rfl)) (hw _ (wd 18 rfl)) (hw _ (wd 19 rfl)) (hw _ (wd 20 rfl)) (w3 hw p0 (s0 m) t0 (by omega) u0.1.1) (ok3 hw) rfl rfl rfl rfl ?_
  refine W.istore d0_82 rfl ?_
  show WB _ l Z n m0 84 [(.val (.int (md))), (.val (.int (a))), (.val (.int (b))), (.val (.int (e))), (.val (.int (f))), (.val (.int (Int32.ofNat m))), (.val (.int (1))), (.val (.int (Int32.ofNat p0))), (.val (.int (Int32.ofNat p1))), (.val (.int (Int32.ofNat p2))), (.val (.int (Int32.ofNat p3))), (.val (.ref 0)), (.val (.ref 3)), (.val (.ref 4)), (.val (.int (1))), (.val (.int (recR p0 (s0 m)))), .unset, .unset, .unset, .unset, .unset, .unset, .unset, .unset, .unset] [] [.inl ("boundwright/search/Reads", [(("boundwright/search/Reads", "round", "I"), (.int ((recS p0 (s0 m)).2.2.1))), (("boundwright/search/Reads", "order", "[I"), (.ref 1)), (("boundwright/search/Reads", "seen", "[I"), (.ref 2)), (("boundwright/search/Reads", "size", "I"), (.int ((recS p0 (s0 m)).2.2.2)))]), .inr (.int, (recS p0 (s0 m)).2.1.map Value.int), .inr (.int, (recS p0 (s0 m)).1.map Value.int), .inr (.int, [(.int (t0.1)), (.int (t0.2.1))]), .inr (.int, t0.2.2.map Value.int)] _ _ _
  refine W.aload d0_84 rfl rfl ?_
  refine W.aload d0_86 rfl rfl ?_
  refine W.iload d0_88 rfl ?_
  refine W.callsV (M' := m4) d0_90 (hw _ (wd 24 rfl)) (hw _ (wd 25 rfl)) (w4 hw p0 (recS p0 (s0 m)) t0 (by omega) u0.1.2) (ok4 hw) rfl rfl rfl ?_
  refine W.istore d0_93 rfl ?_
  refine W.iload d0_95 rfl ?_
  refine W.if_eq d0_97 (fun h => False.elim (by revert h; decide)) (fun h97 => ?_)
  refine W.iload d0_100 rfl ?_
  refine W.iload d0_102 rfl ?_
  refine W.icmp_ne d0_104 (fun h => False.elim (h u0.2)) (fun h104 => ?_)
  refine W.iconst 1 d0_107 rfl ?_
  refine W.goto d0_108 ?_
  refine W.istore d0_112 rfl ?_
  refine W.iload d0_114 rfl ?_
  refine W.iconst 1 d0_116 rfl ?_
  refine W.icmp_ne d0_117 (fun h => False.elim (by revert h; decide)) (fun h117 => ?_)
  refine W.aload d0_120 rfl rfl ?_
  refine W.callvN (M' := m8) d0_122 (hw _ (wd 41 rfl)) (hw _ (wd 42 rfl)) (hw _ (wd 43 rfl)) (hw _ (wd 44 rfl)) (w8 hw (recS p0 (s0 m)) (stpS p0 t0) (own_rd _ (by simp only [own_r1]; rfl))) (ok8 hw) rfl rfl rfl rfl ?_
  refine W.aload d0_125 rfl rfl ?_
  refine W.callsN (M' := m9) d0_127 (hw _ (wd 46 rfl)) (hw _ (wd 47 rfl)) (w9 hw (clrS (recS p0 (s0 m))) (stpS p0 t0)) (ok9 hw) rfl rfl rfl ?_
  refine W.aload d0_130 rfl rfl ?_
  refine W.iload d0_132 rfl ?_
  refine W.callvV (M' := m3) d0_134 (hw _ (wd 17 rfl)) (hw _ (wd 18 rfl)) (hw _ (wd 19 rfl)) (hw _ (wd 20 rfl)) (w3 hw p1 (clrS (recS p0 (s0 m))) (rstS (stpS p0 t0)) (by omega) u1.1.1) (ok3 hw) rfl rfl rfl rfl ?_
  refine W.istore d0_137 rfl ?_
  refine W.aload d0_139 rfl rfl ?_
  refine W.aload d0_141 rfl rfl ?_
  refine W.iload d0_143 rfl ?_
  refine W.callsV (M' := m4) d0_145 (hw _ (wd 24 rfl)) (hw _ (wd 25 rfl)) (w4 hw p1 (recS p1 (clrS (recS p0 (s0 m)))) (rstS (stpS p0 t0)) (by omega) u1.1.2) (ok4 hw) rfl rfl rfl ?_
  refine W.istore d0_148 rfl ?_
  show WB _ l Z n m0 150 [(.val (.int (md))), (.val (.int (a))), (.val (.int (b))), (.val (.int (e))), (.val (.int (f))), (.val (.int (Int32.ofNat m))), (.val (.int (1))), (.val (.int (Int32.ofNat p0))), (.val (.int (Int32.ofNat p1))), (.val (.int (Int32.ofNat p2))), (.val (.int (Int32.ofNat p3))), (.val (.ref 0)), (.val (.ref 3)), (.val (.ref 4)), (.val (.int (1))), (.val (.int (recR p0 (s0 m)))), (.val (.int (stpR p0 t0))), (.val (.int (recR p1 (clrS (recS p0 (s0 m)))))), (.val (.int (stpR p1 (rstS (stpS p0 t0))))), .unset, .unset, .unset, .unset, .unset, .unset] [] [.inl ("boundwright/search/Reads", [(("boundwright/search/Reads", "round", "I"), (.int ((recS p1 (clrS (recS p0 (s0 m)))).2.2.1))), (("boundwright/search/Reads", "order", "[I"), (.ref 1)), (("boundwright/search/Reads", "seen", "[I"), (.ref 2)), (("boundwright/search/Reads", "size", "I"), (.int ((recS p1 (clrS (recS p0 (s0 m)))).2.2.2)))]), .inr (.int, (recS p1 (clrS (recS p0 (s0 m)))).2.1.map Value.int), .inr (.int, (recS p1 (clrS (recS p0 (s0 m)))).1.map Value.int), .inr (.int, [(.int ((stpS p1 (rstS (stpS p0 t0))).1)), (.int ((stpS p1 (rstS (stpS p0 t0))).2.1))]), .inr (.int, (stpS p1 (rstS (stpS p0 t0))).2.2.map Value.int)] _ _ _
  refine W.iload d0_150 rfl ?_
  refine W.if_eq d0_152 (fun h => False.elim (by revert h; decide)) (fun h152 => ?_)
  refine W.iload d0_155 rfl ?_
  refine W.iload d0_157 rfl ?_
  refine W.icmp_ne d0_159 (fun h => False.elim (h u1.2)) (fun h159 => ?_)
  refine W.iconst 1 d0_162 rfl ?_
  refine W.goto d0_163 ?_
  refine W.istore d0_167 rfl ?_
  refine W.iload d0_169 rfl ?_
  refine W.iconst 2 d0_171 rfl ?_
  refine W.icmp_ne d0_172 (fun h172 => ?_) (fun h => False.elim (by revert h; decide))
  refine W.aload d0_185 rfl rfl ?_
  refine W.iload d0_187 rfl ?_
  refine W.callvV (M' := m3) d0_189 (hw _ (wd 17 rfl)) (hw _ (wd 18 rfl)) (hw _ (wd 19 rfl)) (hw _ (wd 20 rfl)) (w3 hw p2 (recS p1 (clrS (recS p0 (s0 m)))) (stpS p1 (rstS (stpS p0 t0))) (by omega) u2.1.1) (ok3 hw) rfl rfl rfl rfl ?_
  refine W.istore d0_192 rfl ?_
  refine W.aload d0_194 rfl rfl ?_
  refine W.aload d0_196 rfl rfl ?_
  refine W.iload d0_198 rfl ?_
  refine W.callsV (M' := m4) d0_200 (hw _ (wd 24 rfl)) (hw _ (wd 25 rfl)) (w4 hw p2 (recS p2 (recS p1 (clrS (recS p0 (s0 m))))) (stpS p1 (rstS (stpS p0 t0))) (by omega) u2.1.2) (ok4 hw) rfl rfl rfl ?_
  refine W.istore d0_203 rfl ?_
  refine W.iload d0_205 rfl ?_
  refine W.if_eq d0_207 (fun h => False.elim (by revert h; decide)) (fun h207 => ?_)
  refine W.iload d0_210 rfl ?_
  refine W.iload d0_212 rfl ?_
  refine W.icmp_ne d0_214 (fun h => False.elim (h u2.2)) (fun h214 => ?_)
  refine W.iconst 1 d0_217 rfl ?_
  refine W.goto d0_218 ?_
  refine W.istore d0_222 rfl ?_
  show WB _ l Z n m0 224 [(.val (.int (md))), (.val (.int (a))), (.val (.int (b))), (.val (.int (e))), (.val (.int (f))), (.val (.int (Int32.ofNat m))), (.val (.int (1))), (.val (.int (Int32.ofNat p0))), (.val (.int (Int32.ofNat p1))), (.val (.int (Int32.ofNat p2))), (.val (.int (Int32.ofNat p3))), (.val (.ref 0)), (.val (.ref 3)), (.val (.ref 4)), (.val (.int (1))), (.val (.int (recR p0 (s0 m)))), (.val (.int (stpR p0 t0))), (.val (.int (recR p1 (clrS (recS p0 (s0 m)))))), (.val (.int (stpR p1 (rstS (stpS p0 t0))))), (.val (.int (recR p2 (recS p1 (clrS (recS p0 (s0 m))))))), (.val (.int (stpR p2 (stpS p1 (rstS (stpS p0 t0)))))), .unset, .unset, .unset, .unset] [] [.inl ("boundwright/search/Reads", [(("boundwright/search/Reads", "round", "I"), (.int ((recS p2 (recS p1 (clrS (recS p0 (s0 m))))).2.2.1))), (("boundwright/search/Reads", "order", "[I"), (.ref 1)), (("boundwright/search/Reads", "seen", "[I"), (.ref 2)), (("boundwright/search/Reads", "size", "I"), (.int ((recS p2 (recS p1 (clrS (recS p0 (s0 m))))).2.2.2)))]), .inr (.int, (recS p2 (recS p1 (clrS (recS p0 (s0 m))))).2.1.map Value.int), .inr (.int, (recS p2 (recS p1 (clrS (recS p0 (s0 m))))).1.map Value.int), .inr (.int, [(.int ((stpS p2 (stpS p1 (rstS (stpS p0 t0)))).1)), (.int ((stpS p2 (stpS p1 (rstS (stpS p0 t0)))).2.1))]), .inr (.int, (stpS p2 (stpS p1 (rstS (stpS p0 t0)))).2.2.map Value.int)] _ _ _
  refine W.iload d0_224 rfl ?_
  refine W.iconst 3 d0_226 rfl ?_
  refine W.icmp_ne d0_227 (fun h227 => ?_) (fun h => False.elim (by revert h; decide))
  refine W.aload d0_240 rfl rfl ?_
  refine W.iload d0_242 rfl ?_
  refine W.callvV (M' := m3) d0_244 (hw _ (wd 17 rfl)) (hw _ (wd 18 rfl)) (hw _ (wd 19 rfl)) (hw _ (wd 20 rfl)) (w3 hw p3 (recS p2 (recS p1 (clrS (recS p0 (s0 m))))) (stpS p2 (stpS p1 (rstS (stpS p0 t0)))) (by omega) u3.1.1) (ok3 hw) rfl rfl rfl rfl ?_
  refine W.istore d0_247 rfl ?_
  refine W.aload d0_249 rfl rfl ?_
  refine W.aload d0_251 rfl rfl ?_
  refine W.iload d0_253 rfl ?_
  refine W.callsV (M' := m4) d0_255 (hw _ (wd 24 rfl)) (hw _ (wd 25 rfl)) (w4 hw p3 (recS p3 (recS p2 (recS p1 (clrS (recS p0 (s0 m)))))) (stpS p2 (stpS p1 (rstS (stpS p0 t0)))) (by omega) u3.1.2) (ok4 hw) rfl rfl rfl ?_
  refine W.istore d0_258 rfl ?_
  refine W.iload d0_260 rfl ?_
  refine W.if_eq d0_262 (fun h => False.elim (by revert h; decide)) (fun h262 => ?_)
  refine W.iload d0_265 rfl ?_
  refine W.iload d0_267 rfl ?_
  refine W.icmp_ne d0_269 (fun h => False.elim (h u3.2)) (fun h269 => ?_)
  refine W.iconst 1 d0_272 rfl ?_
  refine W.goto d0_273 ?_
  refine W.istore d0_277 rfl ?_
  refine W.aload d0_279 rfl rfl ?_
  refine W.callvV (M' := m5) d0_281 (hw _ (wd 28 rfl)) (hw _ (wd 29 rfl)) (hw _ (wd 30 rfl)) (hw _ (wd 31 rfl)) (c5_0 hw ((recS p3 (recS p2 (recS p1 (clrS (recS p0 (s0 m)))))).2.2.1) ((recS p3 (recS p2 (recS p1 (clrS (recS p0 (s0 m)))))).2.2.2) ((recS p3 (recS p2 (recS p1 (clrS (recS p0 (s0 m)))))).2.1.map Value.int) ((recS p3 (recS p2 (recS p1 (clrS (recS p0 (s0 m)))))).1.map Value.int) ((stpS p3 (stpS p2 (stpS p1 (rstS (stpS p0 t0))))).1) ((stpS p3 (stpS p2 (stpS p1 (rstS (stpS p0 t0))))).2.1) ((stpS p3 (stpS p2 (stpS p1 (rstS (stpS p0 t0))))).2.2.map Value.int)) (ok5 hw) rfl rfl rfl rfl ?_
  refine W.istore d0_284 rfl ?_
  show WB _ l Z n m0 286 [(.val (.int (md))), (.val (.int (a))), (.val (.int (b))), (.val (.int (e))), (.val (.int (f))), (.val (.int (Int32.ofNat m))), (.val (.int (1))), (.val (.int (Int32.ofNat p0))), (.val (.int (Int32.ofNat p1))), (.val (.int (Int32.ofNat p2))), (.val (.int (Int32.ofNat p3))), (.val (.ref 0)), (.val (.ref 3)), (.val (.ref 4)), (.val (.int (1))), (.val (.int (recR p0 (s0 m)))), (.val (.int (stpR p0 t0))), (.val (.int (recR p1 (clrS (recS p0 (s0 m)))))), (.val (.int (stpR p1 (rstS (stpS p0 t0))))), (.val (.int (recR p2 (recS p1 (clrS (recS p0 (s0 m))))))), (.val (.int (stpR p2 (stpS p1 (rstS (stpS p0 t0)))))), (.val (.int (recR p3 (recS p2 (recS p1 (clrS (recS p0 (s0 m)))))))), (.val (.int (stpR p3 (stpS p2 (stpS p1 (rstS (stpS p0 t0))))))), (.val (.int (((recS p3 (recS p2 (recS p1 (clrS (recS p0 (s0 m)))))).2.2.2)))), .unset] [] [.inl ("boundwright/search/Reads", [(("boundwright/search/Reads", "round", "I"), (.int (((recS p3 (recS p2 (recS p1 (clrS (recS p0 (s0 m)))))).2.2.1)))), (("boundwright/search/Reads", "order", "[I"), (.ref 1)), (("boundwright/search/Reads", "seen", "[I"), (.ref 2)), (("boundwright/search/Reads", "size", "I"), (.int (((recS p3 (recS p2 (recS p1 (clrS (recS p0 (s0 m)))))).2.2.2))))]), .inr (.int, ((recS p3 (recS p2 (recS p1 (clrS (recS p0 (s0 m)))))).2.1.map Value.int)), .inr (.int, ((recS p3 (recS p2 (recS p1 (clrS (recS p0 (s0 m)))))).1.map Value.int)), .inr (.int, [(.int (((stpS p3 (stpS p2 (stpS p1 (rstS (stpS p0 t0))))).1))), (.int (((stpS p3 (stpS p2 (stpS p1 (rstS (stpS p0 t0))))).2.1)))]), .inr (.int, ((stpS p3 (stpS p2 (stpS p1 (rstS (stpS p0 t0))))).2.2.map Value.int))] _ _ _
  refine W.aload d0_286 rfl rfl ?_
  refine W.callvV (M' := m6) d0_288 (hw _ (wd 33 rfl)) (hw _ (wd 34 rfl)) (hw _ (wd 35 rfl)) (hw _ (wd 36 rfl)) (c6_1 hw ((recS p3 (recS p2 (recS p1 (clrS (recS p0 (s0 m)))))).2.2.1) ((recS p3 (recS p2 (recS p1 (clrS (recS p0 (s0 m)))))).2.2.2) ((recS p3 (recS p2 (recS p1 (clrS (recS p0 (s0 m)))))).2.1.map Value.int) ((recS p3 (recS p2 (recS p1 (clrS (recS p0 (s0 m)))))).1.map Value.int) ((stpS p3 (stpS p2 (stpS p1 (rstS (stpS p0 t0))))).1) ((stpS p3 (stpS p2 (stpS p1 (rstS (stpS p0 t0))))).2.1) ((stpS p3 (stpS p2 (stpS p1 (rstS (stpS p0 t0))))).2.2.map Value.int)) (ok6 hw) rfl rfl rfl rfl ?_
  refine W.astore d0_291 rfl rfl ?_
  refine W.iload d0_293 rfl ?_
  refine W.if_eq d0_295 (fun h => False.elim (by revert h; decide)) (fun h295 => ?_)
  refine W.iload d0_298 rfl ?_
  refine W.aload d0_300 rfl rfl ?_
  refine W.iconst 1 d0_302 rfl ?_
  refine W.iaload (i := 1) d0_303 rfl ⟨by decide, by decide⟩ rfl ?_
  refine W.icmp_ne d0_304 (fun h => False.elim (h u4')) (fun h304 => ?_)
  refine W.aload d0_307 rfl rfl ?_
  refine W.aload d0_309 rfl rfl ?_
  refine W.aload d0_311 rfl rfl ?_
  refine W.iconst 1 d0_313 rfl ?_
  refine W.iaload (i := 1) d0_314 rfl ⟨by decide, by decide⟩ rfl ?_
  refine W.callsV (M' := m7) d0_315 (hw _ (wd 38 rfl)) (hw _ (wd 39 rfl)) (w7 hw (recS p3 (recS p2 (recS p1 (clrS (recS p0 (s0 m)))))) (stpS p3 (stpS p2 (stpS p1 (rstS (stpS p0 t0))))) u4) (ok7 hw) rfl rfl rfl ?_
  refine W.if_eq d0_318 (fun h => False.elim (by revert h; decide)) (fun h318 => ?_)
  refine W.iconst 1 d0_321 rfl ?_
  refine W.goto d0_322 ?_
  exact W.nreturn .boolean d0_326 rfl (by simp) (by decide) (by decide) (rfl)
set_option maxRecDepth 65536 in
set_option maxHeartbeats 40000000 in
theorem law2 {l : Launch} {Z : State} {a0 : Array Value} {n : Nat} (hw : ∀ d ∈ tables_1, d.before a0 Z = true) (md a b e f : Int32) (m p0 p1 p2 p3 : Nat) (hm : 0 < m ∧ m < 5) (h0 : p0 < m) (h1 : p1 < m) (h2 : p2 < m) (h3 : p3 < m) : W l Z n m0 51 [(.val (.int (md))), (.val (.int (a))), (.val (.int (b))), (.val (.int (e))), (.val (.int (f))), (.val (.int (Int32.ofNat m))), (.val (.int (2))), (.val (.int (Int32.ofNat p0))), (.val (.int (Int32.ofNat p1))), (.val (.int (Int32.ofNat p2))), (.val (.int (Int32.ofNat p3))), .unset, .unset, .unset, .unset, .unset, .unset, .unset, .unset, .unset, .unset, .unset, .unset, .unset, .unset] [] [] 0 0 (fun v _ => v = some (.int 1)) := by
  have hq := own_each2 m p0 p1 p2 p3 hm h0 h1 h2 h3
  simp only [all_2, Bool.and_eq_true, decide_eq_true_eq] at hq
  obtain ⟨⟨⟨⟨u0, u1⟩, u2⟩, u3⟩, u4⟩ := hq
  have u4' := own_sz u4
  refine W.new (N := 0) d0_51 (hw _ (wd 1 rfl)) (okc0 hw) rfl (by decide) (by decide) ?_
  refine W.dup d0_54 rfl ?_
  refine W.iload d0_55 rfl ?_
  refine W.initN (M' := m1) d0_57 rfl rfl (hw _ (wd 4 rfl)) (hw _ (wd 5 rfl)) (w1 hw m (by omega)) (ok1 hw) rfl rfl rfl ?_
  refine W.astore d0_60 rfl rfl ?_
  refine W.iconst 2 d0_62 rfl ?_
  refine W.newarray (N := 3) (cnt := 2) (cap := 2) d0_63 (hw _ (wd 12 rfl)) ⟨by decide, by decide⟩ rfl (Nat.le_refl _) (by decide) (by decide) (by decide) ?_
  refine W.astore d0_65 rfl rfl ?_
  show WB _ l Z n m0 67 [(.val (.int (md))), (.val (.int (a))), (.val (.int (b))), (.val (.int (e))), (.val (.int (f))), (.val (.int (Int32.ofNat m))), (.val (.int (2))), (.val (.int (Int32.ofNat p0))), (.val (.int (Int32.ofNat p1))), (.val (.int (Int32.ofNat p2))), (.val (.int (Int32.ofNat p3))), (.val (.ref 0)), (.val (.ref 3)), .unset, .unset, .unset, .unset, .unset, .unset, .unset, .unset, .unset, .unset, .unset, .unset] [] [.inl ("boundwright/search/Reads", [(("boundwright/search/Reads", "round", "I"), (.int (1))), (("boundwright/search/Reads", "order", "[I"), (.ref 1)), (("boundwright/search/Reads", "seen", "[I"), (.ref 2)), (("boundwright/search/Reads", "size", "I"), (.int (0)))]), .inr (.int, List.replicate m (Value.int 0)), .inr (.int, List.replicate m (Value.int 0)), .inr (.int, [(.int (0)), (.int (0))])] _ _ _
  refine W.iconst 4 d0_67 rfl ?_
  refine W.newarray (N := 4) (cnt := 4) (cap := 4) d0_68 (hw _ (wd 12 rfl)) ⟨by decide, by decide⟩ rfl (Nat.le_refl _) (by decide) (by decide) (by decide) ?_
  refine W.astore d0_70 rfl rfl ?_
  refine W.iconst 1 d0_72 rfl ?_
  refine W.istore d0_73 rfl ?_
  have e0 : List.replicate m (Value.int 0) = (s0 m).1.map Value.int := by simp [s0]
  rw [e0]
  show W l Z n m0 75 [(.val (.int (md))), (.val (.int (a))), (.val (.int (b))), (.val (.int (e))), (.val (.int (f))), (.val (.int (Int32.ofNat m))), (.val (.int (2))), (.val (.int (Int32.ofNat p0))), (.val (.int (Int32.ofNat p1))), (.val (.int (Int32.ofNat p2))), (.val (.int (Int32.ofNat p3))), (.val (.ref 0)), (.val (.ref 3)), (.val (.ref 4)), (.val (.int (1))), .unset, .unset, .unset, .unset, .unset, .unset, .unset, .unset, .unset, .unset] [] [.inl ("boundwright/search/Reads", [(("boundwright/search/Reads", "round", "I"), (.int ((s0 m).2.2.1))), (("boundwright/search/Reads", "order", "[I"), (.ref 1)), (("boundwright/search/Reads", "seen", "[I"), (.ref 2)), (("boundwright/search/Reads", "size", "I"), (.int ((s0 m).2.2.2)))]), .inr (.int, (s0 m).2.1.map Value.int), .inr (.int, (s0 m).1.map Value.int), .inr (.int, [(.int (t0.1)), (.int (t0.2.1))]), .inr (.int, t0.2.2.map Value.int)] _ _ _
  refine W.aload d0_75 rfl rfl ?_
  refine W.iload d0_77 rfl ?_
  refine W.callvV (M' := m3) d0_79 (hw _ (wd 17 rfl)) (hw _ (wd 18 rfl)) (hw _ (wd 19 rfl)) (hw _ (wd 20 rfl)) (w3 hw p0 (s0 m) t0 (by omega) u0.1.1) (ok3 hw) rfl rfl rfl rfl ?_
  refine W.istore d0_82 rfl ?_
  show WB _ l Z n m0 84 [(.val (.int (md))), (.val (.int (a))), (.val (.int (b))), (.val (.int (e))), (.val (.int (f))), (.val (.int (Int32.ofNat m))), (.val (.int (2))), (.val (.int (Int32.ofNat p0))), (.val (.int (Int32.ofNat p1))), (.val (.int (Int32.ofNat p2))), (.val (.int (Int32.ofNat p3))), (.val (.ref 0)), (.val (.ref 3)), (.val (.ref 4)), (.val (.int (1))), (.val (.int (recR p0 (s0 m)))), .unset, .unset, .unset, .unset, .unset, .unset, .unset, .unset, .unset] [] [.inl ("boundwright/search/Reads", [(("boundwright/search/Reads", "round", "I"), (.int ((recS p0 (s0 m)).2.2.1))), (("boundwright/search/Reads", "order", "[I"), (.ref 1)), (("boundwright/search/Reads", "seen", "[I"), (.ref 2)), (("boundwright/search/Reads", "size", "I"), (.int ((recS p0 (s0 m)).2.2.2)))]), .inr (.int, (recS p0 (s0 m)).2.1.map Value.int), .inr (.int, (recS p0 (s0 m)).1.map Value.int), .inr (.int, [(.int (t0.1)), (.int (t0.2.1))]), .inr (.int, t0.2.2.map Value.int)] _ _ _
  refine W.aload d0_84 rfl rfl ?_
  refine W.aload d0_86 rfl rfl ?_
  refine W.iload d0_88 rfl ?_
  refine W.callsV (M' := m4) d0_90 (hw _ (wd 24 rfl)) (hw _ (wd 25 rfl)) (w4 hw p0 (recS p0 (s0 m)) t0 (by omega) u0.1.2) (ok4 hw) rfl rfl rfl ?_
  refine W.istore d0_93 rfl ?_
  refine W.iload d0_95 rfl ?_
  refine W.if_eq d0_97 (fun h => False.elim (by revert h; decide)) (fun h97 => ?_)
  refine W.iload d0_100 rfl ?_
  refine W.iload d0_102 rfl ?_
  refine W.icmp_ne d0_104 (fun h => False.elim (h u0.2)) (fun h104 => ?_)
  refine W.iconst 1 d0_107 rfl ?_
  refine W.goto d0_108 ?_
  refine W.istore d0_112 rfl ?_
  refine W.iload d0_114 rfl ?_
  refine W.iconst 1 d0_116 rfl ?_
  refine W.icmp_ne d0_117 (fun h117 => ?_) (fun h => False.elim (by revert h; decide))
  refine W.aload d0_130 rfl rfl ?_
  refine W.iload d0_132 rfl ?_
  refine W.callvV (M' := m3) d0_134 (hw _ (wd 17 rfl)) (hw _ (wd 18 rfl)) (hw _ (wd 19 rfl)) (hw _ (wd 20 rfl)) (w3 hw p1 (recS p0 (s0 m)) (stpS p0 t0) (by omega) u1.1.1) (ok3 hw) rfl rfl rfl rfl ?_
  refine W.istore d0_137 rfl ?_
  refine W.aload d0_139 rfl rfl ?_
  refine W.aload d0_141 rfl rfl ?_
  refine W.iload d0_143 rfl ?_
  refine W.callsV (M' := m4) d0_145 (hw _ (wd 24 rfl)) (hw _ (wd 25 rfl)) (w4 hw p1 (recS p1 (recS p0 (s0 m))) (stpS p0 t0) (by omega) u1.1.2) (ok4 hw) rfl rfl rfl ?_
  refine W.istore d0_148 rfl ?_
  show WB _ l Z n m0 150 [(.val (.int (md))), (.val (.int (a))), (.val (.int (b))), (.val (.int (e))), (.val (.int (f))), (.val (.int (Int32.ofNat m))), (.val (.int (2))), (.val (.int (Int32.ofNat p0))), (.val (.int (Int32.ofNat p1))), (.val (.int (Int32.ofNat p2))), (.val (.int (Int32.ofNat p3))), (.val (.ref 0)), (.val (.ref 3)), (.val (.ref 4)), (.val (.int (1))), (.val (.int (recR p0 (s0 m)))), (.val (.int (stpR p0 t0))), (.val (.int (recR p1 (recS p0 (s0 m))))), (.val (.int (stpR p1 (stpS p0 t0)))), .unset, .unset, .unset, .unset, .unset, .unset] [] [.inl ("boundwright/search/Reads", [(("boundwright/search/Reads", "round", "I"), (.int ((recS p1 (recS p0 (s0 m))).2.2.1))), (("boundwright/search/Reads", "order", "[I"), (.ref 1)), (("boundwright/search/Reads", "seen", "[I"), (.ref 2)), (("boundwright/search/Reads", "size", "I"), (.int ((recS p1 (recS p0 (s0 m))).2.2.2)))]), .inr (.int, (recS p1 (recS p0 (s0 m))).2.1.map Value.int), .inr (.int, (recS p1 (recS p0 (s0 m))).1.map Value.int), .inr (.int, [(.int ((stpS p1 (stpS p0 t0)).1)), (.int ((stpS p1 (stpS p0 t0)).2.1))]), .inr (.int, (stpS p1 (stpS p0 t0)).2.2.map Value.int)] _ _ _
  refine W.iload d0_150 rfl ?_
  refine W.if_eq d0_152 (fun h => False.elim (by revert h; decide)) (fun h152 => ?_)
  refine W.iload d0_155 rfl ?_
  refine W.iload d0_157 rfl ?_
  refine W.icmp_ne d0_159 (fun h => False.elim (h u1.2)) (fun h159 => ?_)
  refine W.iconst 1 d0_162 rfl ?_
  refine W.goto d0_163 ?_
  refine W.istore d0_167 rfl ?_
  refine W.iload d0_169 rfl ?_
  refine W.iconst 2 d0_171 rfl ?_
  refine W.icmp_ne d0_172 (fun h => False.elim (by revert h; decide)) (fun h172 => ?_)
  refine W.aload d0_175 rfl rfl ?_
  refine W.callvN (M' := m8) d0_177 (hw _ (wd 41 rfl)) (hw _ (wd 42 rfl)) (hw _ (wd 43 rfl)) (hw _ (wd 44 rfl)) (w8 hw (recS p1 (recS p0 (s0 m))) (stpS p1 (stpS p0 t0)) (own_rd _ (by simp only [own_r1]; rfl))) (ok8 hw) rfl rfl rfl rfl ?_
  refine W.aload d0_180 rfl rfl ?_
  refine W.callsN (M' := m9) d0_182 (hw _ (wd 46 rfl)) (hw _ (wd 47 rfl)) (w9 hw (clrS (recS p1 (recS p0 (s0 m)))) (stpS p1 (stpS p0 t0))) (ok9 hw) rfl rfl rfl ?_
  refine W.aload d0_185 rfl rfl ?_
  refine W.iload d0_187 rfl ?_
  refine W.callvV (M' := m3) d0_189 (hw _ (wd 17 rfl)) (hw _ (wd 18 rfl)) (hw _ (wd 19 rfl)) (hw _ (wd 20 rfl)) (w3 hw p2 (clrS (recS p1 (recS p0 (s0 m)))) (rstS (stpS p1 (stpS p0 t0))) (by omega) u2.1.1) (ok3 hw) rfl rfl rfl rfl ?_
  refine W.istore d0_192 rfl ?_
  refine W.aload d0_194 rfl rfl ?_
  refine W.aload d0_196 rfl rfl ?_
  refine W.iload d0_198 rfl ?_
  refine W.callsV (M' := m4) d0_200 (hw _ (wd 24 rfl)) (hw _ (wd 25 rfl)) (w4 hw p2 (recS p2 (clrS (recS p1 (recS p0 (s0 m))))) (rstS (stpS p1 (stpS p0 t0))) (by omega) u2.1.2) (ok4 hw) rfl rfl rfl ?_
  refine W.istore d0_203 rfl ?_
  refine W.iload d0_205 rfl ?_
  refine W.if_eq d0_207 (fun h => False.elim (by revert h; decide)) (fun h207 => ?_)
  refine W.iload d0_210 rfl ?_
  refine W.iload d0_212 rfl ?_
  refine W.icmp_ne d0_214 (fun h => False.elim (h u2.2)) (fun h214 => ?_)
  refine W.iconst 1 d0_217 rfl ?_
  refine W.goto d0_218 ?_
  refine W.istore d0_222 rfl ?_
  show WB _ l Z n m0 224 [(.val (.int (md))), (.val (.int (a))), (.val (.int (b))), (.val (.int (e))), (.val (.int (f))), (.val (.int (Int32.ofNat m))), (.val (.int (2))), (.val (.int (Int32.ofNat p0))), (.val (.int (Int32.ofNat p1))), (.val (.int (Int32.ofNat p2))), (.val (.int (Int32.ofNat p3))), (.val (.ref 0)), (.val (.ref 3)), (.val (.ref 4)), (.val (.int (1))), (.val (.int (recR p0 (s0 m)))), (.val (.int (stpR p0 t0))), (.val (.int (recR p1 (recS p0 (s0 m))))), (.val (.int (stpR p1 (stpS p0 t0)))), (.val (.int (recR p2 (clrS (recS p1 (recS p0 (s0 m))))))), (.val (.int (stpR p2 (rstS (stpS p1 (stpS p0 t0)))))), .unset, .unset, .unset, .unset] [] [.inl ("boundwright/search/Reads", [(("boundwright/search/Reads", "round", "I"), (.int ((recS p2 (clrS (recS p1 (recS p0 (s0 m))))).2.2.1))), (("boundwright/search/Reads", "order", "[I"), (.ref 1)), (("boundwright/search/Reads", "seen", "[I"), (.ref 2)), (("boundwright/search/Reads", "size", "I"), (.int ((recS p2 (clrS (recS p1 (recS p0 (s0 m))))).2.2.2)))]), .inr (.int, (recS p2 (clrS (recS p1 (recS p0 (s0 m))))).2.1.map Value.int), .inr (.int, (recS p2 (clrS (recS p1 (recS p0 (s0 m))))).1.map Value.int), .inr (.int, [(.int ((stpS p2 (rstS (stpS p1 (stpS p0 t0)))).1)), (.int ((stpS p2 (rstS (stpS p1 (stpS p0 t0)))).2.1))]), .inr (.int, (stpS p2 (rstS (stpS p1 (stpS p0 t0)))).2.2.map Value.int)] _ _ _
  refine W.iload d0_224 rfl ?_
  refine W.iconst 3 d0_226 rfl ?_
  refine W.icmp_ne d0_227 (fun h227 => ?_) (fun h => False.elim (by revert h; decide))
  refine W.aload d0_240 rfl rfl ?_
  refine W.iload d0_242 rfl ?_
  refine W.callvV (M' := m3) d0_244 (hw _ (wd 17 rfl)) (hw _ (wd 18 rfl)) (hw _ (wd 19 rfl)) (hw _ (wd 20 rfl)) (w3 hw p3 (recS p2 (clrS (recS p1 (recS p0 (s0 m))))) (stpS p2 (rstS (stpS p1 (stpS p0 t0)))) (by omega) u3.1.1) (ok3 hw) rfl rfl rfl rfl ?_
  refine W.istore d0_247 rfl ?_
  refine W.aload d0_249 rfl rfl ?_
  refine W.aload d0_251 rfl rfl ?_
  refine W.iload d0_253 rfl ?_
  refine W.callsV (M' := m4) d0_255 (hw _ (wd 24 rfl)) (hw _ (wd 25 rfl)) (w4 hw p3 (recS p3 (recS p2 (clrS (recS p1 (recS p0 (s0 m)))))) (stpS p2 (rstS (stpS p1 (stpS p0 t0)))) (by omega) u3.1.2) (ok4 hw) rfl rfl rfl ?_
  refine W.istore d0_258 rfl ?_
  refine W.iload d0_260 rfl ?_
  refine W.if_eq d0_262 (fun h => False.elim (by revert h; decide)) (fun h262 => ?_)
  refine W.iload d0_265 rfl ?_
  refine W.iload d0_267 rfl ?_
  refine W.icmp_ne d0_269 (fun h => False.elim (h u3.2)) (fun h269 => ?_)
  refine W.iconst 1 d0_272 rfl ?_
  refine W.goto d0_273 ?_
  refine W.istore d0_277 rfl ?_
  refine W.aload d0_279 rfl rfl ?_
  refine W.callvV (M' := m5) d0_281 (hw _ (wd 28 rfl)) (hw _ (wd 29 rfl)) (hw _ (wd 30 rfl)) (hw _ (wd 31 rfl)) (c5_0 hw ((recS p3 (recS p2 (clrS (recS p1 (recS p0 (s0 m)))))).2.2.1) ((recS p3 (recS p2 (clrS (recS p1 (recS p0 (s0 m)))))).2.2.2) ((recS p3 (recS p2 (clrS (recS p1 (recS p0 (s0 m)))))).2.1.map Value.int) ((recS p3 (recS p2 (clrS (recS p1 (recS p0 (s0 m)))))).1.map Value.int) ((stpS p3 (stpS p2 (rstS (stpS p1 (stpS p0 t0))))).1) ((stpS p3 (stpS p2 (rstS (stpS p1 (stpS p0 t0))))).2.1) ((stpS p3 (stpS p2 (rstS (stpS p1 (stpS p0 t0))))).2.2.map Value.int)) (ok5 hw) rfl rfl rfl rfl ?_
  refine W.istore d0_284 rfl ?_
  show WB _ l Z n m0 286 [(.val (.int (md))), (.val (.int (a))), (.val (.int (b))), (.val (.int (e))), (.val (.int (f))), (.val (.int (Int32.ofNat m))), (.val (.int (2))), (.val (.int (Int32.ofNat p0))), (.val (.int (Int32.ofNat p1))), (.val (.int (Int32.ofNat p2))), (.val (.int (Int32.ofNat p3))), (.val (.ref 0)), (.val (.ref 3)), (.val (.ref 4)), (.val (.int (1))), (.val (.int (recR p0 (s0 m)))), (.val (.int (stpR p0 t0))), (.val (.int (recR p1 (recS p0 (s0 m))))), (.val (.int (stpR p1 (stpS p0 t0)))), (.val (.int (recR p2 (clrS (recS p1 (recS p0 (s0 m))))))), (.val (.int (stpR p2 (rstS (stpS p1 (stpS p0 t0)))))), (.val (.int (recR p3 (recS p2 (clrS (recS p1 (recS p0 (s0 m)))))))), (.val (.int (stpR p3 (stpS p2 (rstS (stpS p1 (stpS p0 t0))))))), (.val (.int (((recS p3 (recS p2 (clrS (recS p1 (recS p0 (s0 m)))))).2.2.2)))), .unset] [] [.inl ("boundwright/search/Reads", [(("boundwright/search/Reads", "round", "I"), (.int (((recS p3 (recS p2 (clrS (recS p1 (recS p0 (s0 m)))))).2.2.1)))), (("boundwright/search/Reads", "order", "[I"), (.ref 1)), (("boundwright/search/Reads", "seen", "[I"), (.ref 2)), (("boundwright/search/Reads", "size", "I"), (.int (((recS p3 (recS p2 (clrS (recS p1 (recS p0 (s0 m)))))).2.2.2))))]), .inr (.int, ((recS p3 (recS p2 (clrS (recS p1 (recS p0 (s0 m)))))).2.1.map Value.int)), .inr (.int, ((recS p3 (recS p2 (clrS (recS p1 (recS p0 (s0 m)))))).1.map Value.int)), .inr (.int, [(.int (((stpS p3 (stpS p2 (rstS (stpS p1 (stpS p0 t0))))).1))), (.int (((stpS p3 (stpS p2 (rstS (stpS p1 (stpS p0 t0))))).2.1)))]), .inr (.int, ((stpS p3 (stpS p2 (rstS (stpS p1 (stpS p0 t0))))).2.2.map Value.int))] _ _ _
  refine W.aload d0_286 rfl rfl ?_
  refine W.callvV (M' := m6) d0_288 (hw _ (wd 33 rfl)) (hw _ (wd 34 rfl)) (hw _ (wd 35 rfl)) (hw _ (wd 36 rfl)) (c6_1 hw ((recS p3 (recS p2 (clrS (recS p1 (recS p0 (s0 m)))))).2.2.1) ((recS p3 (recS p2 (clrS (recS p1 (recS p0 (s0 m)))))).2.2.2) ((recS p3 (recS p2 (clrS (recS p1 (recS p0 (s0 m)))))).2.1.map Value.int) ((recS p3 (recS p2 (clrS (recS p1 (recS p0 (s0 m)))))).1.map Value.int) ((stpS p3 (stpS p2 (rstS (stpS p1 (stpS p0 t0))))).1) ((stpS p3 (stpS p2 (rstS (stpS p1 (stpS p0 t0))))).2.1) ((stpS p3 (stpS p2 (rstS (stpS p1 (stpS p0 t0))))).2.2.map Value.int)) (ok6 hw) rfl rfl rfl rfl ?_
  refine W.astore d0_291 rfl rfl ?_
  refine W.iload d0_293 rfl ?_
  refine W.if_eq d0_295 (fun h => False.elim (by revert h; decide)) (fun h295 => ?_)
  refine W.iload d0_298 rfl ?_
  refine W.aload d0_300 rfl rfl ?_
  refine W.iconst 1 d0_302 rfl ?_
  refine W.iaload (i := 1) d0_303 rfl ⟨by decide, by decide⟩ rfl ?_
  refine W.icmp_ne d0_304 (fun h => False.elim (h u4')) (fun h304 => ?_)
  refine W.aload d0_307 rfl rfl ?_
  refine W.aload d0_309 rfl rfl ?_
  refine W.aload d0_311 rfl rfl ?_
  refine W.iconst 1 d0_313 rfl ?_
  refine W.iaload (i := 1) d0_314 rfl ⟨by decide, by decide⟩ rfl ?_
  refine W.callsV (M' := m7) d0_315 (hw _ (wd 38 rfl)) (hw _ (wd 39 rfl)) (w7 hw (recS p3 (recS p2 (clrS (recS p1 (recS p0 (s0 m)))))) (stpS p3 (stpS p2 (rstS (stpS p1 (stpS p0 t0))))) u4) (ok7 hw) rfl rfl rfl ?_
  refine W.if_eq d0_318 (fun h => False.elim (by revert h; decide)) (fun h318 => ?_)
  refine W.iconst 1 d0_321 rfl ?_
  refine W.goto d0_322 ?_
  exact W.nreturn .boolean d0_326 rfl (by simp) (by decide) (by decide) (rfl)
set_option maxRecDepth 65536 in
set_option maxHeartbeats 40000000 in
theorem law3 {l : Launch} {Z : State} {a0 : Array Value} {n : Nat} (hw : ∀ d ∈ tables_1, d.before a0 Z = true) (md a b e f : Int32) (m p0 p1 p2 p3 : Nat) (hm : 0 < m ∧ m < 5) (h0 : p0 < m) (h1 : p1 < m) (h2 : p2 < m) (h3 : p3 < m) : W l Z n m0 51 [(.val (.int (md))), (.val (.int (a))), (.val (.int (b))), (.val (.int (e))), (.val (.int (f))), (.val (.int (Int32.ofNat m))), (.val (.int (3))), (.val (.int (Int32.ofNat p0))), (.val (.int (Int32.ofNat p1))), (.val (.int (Int32.ofNat p2))), (.val (.int (Int32.ofNat p3))), .unset, .unset, .unset, .unset, .unset, .unset, .unset, .unset, .unset, .unset, .unset, .unset, .unset, .unset] [] [] 0 0 (fun v _ => v = some (.int 1)) := by
  have hq := own_each3 m p0 p1 p2 p3 hm h0 h1 h2 h3
  simp only [all_3, Bool.and_eq_true, decide_eq_true_eq] at hq
  obtain ⟨⟨⟨⟨u0, u1⟩, u2⟩, u3⟩, u4⟩ := hq
  have u4' := own_sz u4
  refine W.new (N := 0) d0_51 (hw _ (wd 1 rfl)) (okc0 hw) rfl (by decide) (by decide) ?_
  refine W.dup d0_54 rfl ?_
  refine W.iload d0_55 rfl ?_
  refine W.initN (M' := m1) d0_57 rfl rfl (hw _ (wd 4 rfl)) (hw _ (wd 5 rfl)) (w1 hw m (by omega)) (ok1 hw) rfl rfl rfl ?_
  refine W.astore d0_60 rfl rfl ?_
  refine W.iconst 2 d0_62 rfl ?_
  refine W.newarray (N := 3) (cnt := 2) (cap := 2) d0_63 (hw _ (wd 12 rfl)) ⟨by decide, by decide⟩ rfl (Nat.le_refl _) (by decide) (by decide) (by decide) ?_
  refine W.astore d0_65 rfl rfl ?_
  show WB _ l Z n m0 67 [(.val (.int (md))), (.val (.int (a))), (.val (.int (b))), (.val (.int (e))), (.val (.int (f))), (.val (.int (Int32.ofNat m))), (.val (.int (3))), (.val (.int (Int32.ofNat p0))), (.val (.int (Int32.ofNat p1))), (.val (.int (Int32.ofNat p2))), (.val (.int (Int32.ofNat p3))), (.val (.ref 0)), (.val (.ref 3)), .unset, .unset, .unset, .unset, .unset, .unset, .unset, .unset, .unset, .unset, .unset, .unset] [] [.inl ("boundwright/search/Reads", [(("boundwright/search/Reads", "round", "I"), (.int (1))), (("boundwright/search/Reads", "order", "[I"), (.ref 1)), (("boundwright/search/Reads", "seen", "[I"), (.ref 2)), (("boundwright/search/Reads", "size", "I"), (.int (0)))]), .inr (.int, List.replicate m (Value.int 0)), .inr (.int, List.replicate m (Value.int 0)), .inr (.int, [(.int (0)), (.int (0))])] _ _ _
  refine W.iconst 4 d0_67 rfl ?_
  refine W.newarray (N := 4) (cnt := 4) (cap := 4) d0_68 (hw _ (wd 12 rfl)) ⟨by decide, by decide⟩ rfl (Nat.le_refl _) (by decide) (by decide) (by decide) ?_
  refine W.astore d0_70 rfl rfl ?_
  refine W.iconst 1 d0_72 rfl ?_
  refine W.istore d0_73 rfl ?_
  have e0 : List.replicate m (Value.int 0) = (s0 m).1.map Value.int := by simp [s0]
  rw [e0]
  show W l Z n m0 75 [(.val (.int (md))), (.val (.int (a))), (.val (.int (b))), (.val (.int (e))), (.val (.int (f))), (.val (.int (Int32.ofNat m))), (.val (.int (3))), (.val (.int (Int32.ofNat p0))), (.val (.int (Int32.ofNat p1))), (.val (.int (Int32.ofNat p2))), (.val (.int (Int32.ofNat p3))), (.val (.ref 0)), (.val (.ref 3)), (.val (.ref 4)), (.val (.int (1))), .unset, .unset, .unset, .unset, .unset, .unset, .unset, .unset, .unset, .unset] [] [.inl ("boundwright/search/Reads", [(("boundwright/search/Reads", "round", "I"), (.int ((s0 m).2.2.1))), (("boundwright/search/Reads", "order", "[I"), (.ref 1)), (("boundwright/search/Reads", "seen", "[I"), (.ref 2)), (("boundwright/search/Reads", "size", "I"), (.int ((s0 m).2.2.2)))]), .inr (.int, (s0 m).2.1.map Value.int), .inr (.int, (s0 m).1.map Value.int), .inr (.int, [(.int (t0.1)), (.int (t0.2.1))]), .inr (.int, t0.2.2.map Value.int)] _ _ _
  refine W.aload d0_75 rfl rfl ?_
  refine W.iload d0_77 rfl ?_
  refine W.callvV (M' := m3) d0_79 (hw _ (wd 17 rfl)) (hw _ (wd 18 rfl)) (hw _ (wd 19 rfl)) (hw _ (wd 20 rfl)) (w3 hw p0 (s0 m) t0 (by omega) u0.1.1) (ok3 hw) rfl rfl rfl rfl ?_
  refine W.istore d0_82 rfl ?_
  show WB _ l Z n m0 84 [(.val (.int (md))), (.val (.int (a))), (.val (.int (b))), (.val (.int (e))), (.val (.int (f))), (.val (.int (Int32.ofNat m))), (.val (.int (3))), (.val (.int (Int32.ofNat p0))), (.val (.int (Int32.ofNat p1))), (.val (.int (Int32.ofNat p2))), (.val (.int (Int32.ofNat p3))), (.val (.ref 0)), (.val (.ref 3)), (.val (.ref 4)), (.val (.int (1))), (.val (.int (recR p0 (s0 m)))), .unset, .unset, .unset, .unset, .unset, .unset, .unset, .unset, .unset] [] [.inl ("boundwright/search/Reads", [(("boundwright/search/Reads", "round", "I"), (.int ((recS p0 (s0 m)).2.2.1))), (("boundwright/search/Reads", "order", "[I"), (.ref 1)), (("boundwright/search/Reads", "seen", "[I"), (.ref 2)), (("boundwright/search/Reads", "size", "I"), (.int ((recS p0 (s0 m)).2.2.2)))]), .inr (.int, (recS p0 (s0 m)).2.1.map Value.int), .inr (.int, (recS p0 (s0 m)).1.map Value.int), .inr (.int, [(.int (t0.1)), (.int (t0.2.1))]), .inr (.int, t0.2.2.map Value.int)] _ _ _
  refine W.aload d0_84 rfl rfl ?_
  refine W.aload d0_86 rfl rfl ?_
  refine W.iload d0_88 rfl ?_
  refine W.callsV (M' := m4) d0_90 (hw _ (wd 24 rfl)) (hw _ (wd 25 rfl)) (w4 hw p0 (recS p0 (s0 m)) t0 (by omega) u0.1.2) (ok4 hw) rfl rfl rfl ?_
  refine W.istore d0_93 rfl ?_
  refine W.iload d0_95 rfl ?_
  refine W.if_eq d0_97 (fun h => False.elim (by revert h; decide)) (fun h97 => ?_)
  refine W.iload d0_100 rfl ?_
  refine W.iload d0_102 rfl ?_
  refine W.icmp_ne d0_104 (fun h => False.elim (h u0.2)) (fun h104 => ?_)
  refine W.iconst 1 d0_107 rfl ?_
  refine W.goto d0_108 ?_
  refine W.istore d0_112 rfl ?_
  refine W.iload d0_114 rfl ?_
  refine W.iconst 1 d0_116 rfl ?_
  refine W.icmp_ne d0_117 (fun h117 => ?_) (fun h => False.elim (by revert h; decide))
  refine W.aload d0_130 rfl rfl ?_
  refine W.iload d0_132 rfl ?_
  refine W.callvV (M' := m3) d0_134 (hw _ (wd 17 rfl)) (hw _ (wd 18 rfl)) (hw _ (wd 19 rfl)) (hw _ (wd 20 rfl)) (w3 hw p1 (recS p0 (s0 m)) (stpS p0 t0) (by omega) u1.1.1) (ok3 hw) rfl rfl rfl rfl ?_
  refine W.istore d0_137 rfl ?_
  refine W.aload d0_139 rfl rfl ?_
  refine W.aload d0_141 rfl rfl ?_
  refine W.iload d0_143 rfl ?_
  refine W.callsV (M' := m4) d0_145 (hw _ (wd 24 rfl)) (hw _ (wd 25 rfl)) (w4 hw p1 (recS p1 (recS p0 (s0 m))) (stpS p0 t0) (by omega) u1.1.2) (ok4 hw) rfl rfl rfl ?_
  refine W.istore d0_148 rfl ?_
  show WB _ l Z n m0 150 [(.val (.int (md))), (.val (.int (a))), (.val (.int (b))), (.val (.int (e))), (.val (.int (f))), (.val (.int (Int32.ofNat m))), (.val (.int (3))), (.val (.int (Int32.ofNat p0))), (.val (.int (Int32.ofNat p1))), (.val (.int (Int32.ofNat p2))), (.val (.int (Int32.ofNat p3))), (.val (.ref 0)), (.val (.ref 3)), (.val (.ref 4)), (.val (.int (1))), (.val (.int (recR p0 (s0 m)))), (.val (.int (stpR p0 t0))), (.val (.int (recR p1 (recS p0 (s0 m))))), (.val (.int (stpR p1 (stpS p0 t0)))), .unset, .unset, .unset, .unset, .unset, .unset] [] [.inl ("boundwright/search/Reads", [(("boundwright/search/Reads", "round", "I"), (.int ((recS p1 (recS p0 (s0 m))).2.2.1))), (("boundwright/search/Reads", "order", "[I"), (.ref 1)), (("boundwright/search/Reads", "seen", "[I"), (.ref 2)), (("boundwright/search/Reads", "size", "I"), (.int ((recS p1 (recS p0 (s0 m))).2.2.2)))]), .inr (.int, (recS p1 (recS p0 (s0 m))).2.1.map Value.int), .inr (.int, (recS p1 (recS p0 (s0 m))).1.map Value.int), .inr (.int, [(.int ((stpS p1 (stpS p0 t0)).1)), (.int ((stpS p1 (stpS p0 t0)).2.1))]), .inr (.int, (stpS p1 (stpS p0 t0)).2.2.map Value.int)] _ _ _
  refine W.iload d0_150 rfl ?_
  refine W.if_eq d0_152 (fun h => False.elim (by revert h; decide)) (fun h152 => ?_)
  refine W.iload d0_155 rfl ?_
  refine W.iload d0_157 rfl ?_
  refine W.icmp_ne d0_159 (fun h => False.elim (h u1.2)) (fun h159 => ?_)
  refine W.iconst 1 d0_162 rfl ?_
  refine W.goto d0_163 ?_
  refine W.istore d0_167 rfl ?_
  refine W.iload d0_169 rfl ?_
  refine W.iconst 2 d0_171 rfl ?_
  refine W.icmp_ne d0_172 (fun h172 => ?_) (fun h => False.elim (by revert h; decide))
  refine W.aload d0_185 rfl rfl ?_
  refine W.iload d0_187 rfl ?_
  refine W.callvV (M' := m3) d0_189 (hw _ (wd 17 rfl)) (hw _ (wd 18 rfl)) (hw _ (wd 19 rfl)) (hw _ (wd 20 rfl)) (w3 hw p2 (recS p1 (recS p0 (s0 m))) (stpS p1 (stpS p0 t0)) (by omega) u2.1.1) (ok3 hw) rfl rfl rfl rfl ?_
  refine W.istore d0_192 rfl ?_
  refine W.aload d0_194 rfl rfl ?_
  refine W.aload d0_196 rfl rfl ?_
  refine W.iload d0_198 rfl ?_
  refine W.callsV (M' := m4) d0_200 (hw _ (wd 24 rfl)) (hw _ (wd 25 rfl)) (w4 hw p2 (recS p2 (recS p1 (recS p0 (s0 m)))) (stpS p1 (stpS p0 t0)) (by omega) u2.1.2) (ok4 hw) rfl rfl rfl ?_
  refine W.istore d0_203 rfl ?_
  refine W.iload d0_205 rfl ?_
  refine W.if_eq d0_207 (fun h => False.elim (by revert h; decide)) (fun h207 => ?_)
  refine W.iload d0_210 rfl ?_
  refine W.iload d0_212 rfl ?_
  refine W.icmp_ne d0_214 (fun h => False.elim (h u2.2)) (fun h214 => ?_)
  refine W.iconst 1 d0_217 rfl ?_
  refine W.goto d0_218 ?_
  refine W.istore d0_222 rfl ?_
  show WB _ l Z n m0 224 [(.val (.int (md))), (.val (.int (a))), (.val (.int (b))), (.val (.int (e))), (.val (.int (f))), (.val (.int (Int32.ofNat m))), (.val (.int (3))), (.val (.int (Int32.ofNat p0))), (.val (.int (Int32.ofNat p1))), (.val (.int (Int32.ofNat p2))), (.val (.int (Int32.ofNat p3))), (.val (.ref 0)), (.val (.ref 3)), (.val (.ref 4)), (.val (.int (1))), (.val (.int (recR p0 (s0 m)))), (.val (.int (stpR p0 t0))), (.val (.int (recR p1 (recS p0 (s0 m))))), (.val (.int (stpR p1 (stpS p0 t0)))), (.val (.int (recR p2 (recS p1 (recS p0 (s0 m)))))), (.val (.int (stpR p2 (stpS p1 (stpS p0 t0))))), .unset, .unset, .unset, .unset] [] [.inl ("boundwright/search/Reads", [(("boundwright/search/Reads", "round", "I"), (.int ((recS p2 (recS p1 (recS p0 (s0 m)))).2.2.1))), (("boundwright/search/Reads", "order", "[I"), (.ref 1)), (("boundwright/search/Reads", "seen", "[I"), (.ref 2)), (("boundwright/search/Reads", "size", "I"), (.int ((recS p2 (recS p1 (recS p0 (s0 m)))).2.2.2)))]), .inr (.int, (recS p2 (recS p1 (recS p0 (s0 m)))).2.1.map Value.int), .inr (.int, (recS p2 (recS p1 (recS p0 (s0 m)))).1.map Value.int), .inr (.int, [(.int ((stpS p2 (stpS p1 (stpS p0 t0))).1)), (.int ((stpS p2 (stpS p1 (stpS p0 t0))).2.1))]), .inr (.int, (stpS p2 (stpS p1 (stpS p0 t0))).2.2.map Value.int)] _ _ _
  refine W.iload d0_224 rfl ?_
  refine W.iconst 3 d0_226 rfl ?_
  refine W.icmp_ne d0_227 (fun h => False.elim (by revert h; decide)) (fun h227 => ?_)
  refine W.aload d0_230 rfl rfl ?_
  refine W.callvN (M' := m8) d0_232 (hw _ (wd 41 rfl)) (hw _ (wd 42 rfl)) (hw _ (wd 43 rfl)) (hw _ (wd 44 rfl)) (w8 hw (recS p2 (recS p1 (recS p0 (s0 m)))) (stpS p2 (stpS p1 (stpS p0 t0))) (own_rd _ (by simp only [own_r1]; rfl))) (ok8 hw) rfl rfl rfl rfl ?_
  refine W.aload d0_235 rfl rfl ?_
  refine W.callsN (M' := m9) d0_237 (hw _ (wd 46 rfl)) (hw _ (wd 47 rfl)) (w9 hw (clrS (recS p2 (recS p1 (recS p0 (s0 m))))) (stpS p2 (stpS p1 (stpS p0 t0)))) (ok9 hw) rfl rfl rfl ?_
  refine W.aload d0_240 rfl rfl ?_
  refine W.iload d0_242 rfl ?_
  refine W.callvV (M' := m3) d0_244 (hw _ (wd 17 rfl)) (hw _ (wd 18 rfl)) (hw _ (wd 19 rfl)) (hw _ (wd 20 rfl)) (w3 hw p3 (clrS (recS p2 (recS p1 (recS p0 (s0 m))))) (rstS (stpS p2 (stpS p1 (stpS p0 t0)))) (by omega) u3.1.1) (ok3 hw) rfl rfl rfl rfl ?_
  refine W.istore d0_247 rfl ?_
  refine W.aload d0_249 rfl rfl ?_
  refine W.aload d0_251 rfl rfl ?_
  refine W.iload d0_253 rfl ?_
  refine W.callsV (M' := m4) d0_255 (hw _ (wd 24 rfl)) (hw _ (wd 25 rfl)) (w4 hw p3 (recS p3 (clrS (recS p2 (recS p1 (recS p0 (s0 m)))))) (rstS (stpS p2 (stpS p1 (stpS p0 t0)))) (by omega) u3.1.2) (ok4 hw) rfl rfl rfl ?_
  refine W.istore d0_258 rfl ?_
  refine W.iload d0_260 rfl ?_
  refine W.if_eq d0_262 (fun h => False.elim (by revert h; decide)) (fun h262 => ?_)
  refine W.iload d0_265 rfl ?_
  refine W.iload d0_267 rfl ?_
  refine W.icmp_ne d0_269 (fun h => False.elim (h u3.2)) (fun h269 => ?_)
  refine W.iconst 1 d0_272 rfl ?_
  refine W.goto d0_273 ?_
  refine W.istore d0_277 rfl ?_
  refine W.aload d0_279 rfl rfl ?_
  refine W.callvV (M' := m5) d0_281 (hw _ (wd 28 rfl)) (hw _ (wd 29 rfl)) (hw _ (wd 30 rfl)) (hw _ (wd 31 rfl)) (c5_0 hw ((recS p3 (clrS (recS p2 (recS p1 (recS p0 (s0 m)))))).2.2.1) ((recS p3 (clrS (recS p2 (recS p1 (recS p0 (s0 m)))))).2.2.2) ((recS p3 (clrS (recS p2 (recS p1 (recS p0 (s0 m)))))).2.1.map Value.int) ((recS p3 (clrS (recS p2 (recS p1 (recS p0 (s0 m)))))).1.map Value.int) ((stpS p3 (rstS (stpS p2 (stpS p1 (stpS p0 t0))))).1) ((stpS p3 (rstS (stpS p2 (stpS p1 (stpS p0 t0))))).2.1) ((stpS p3 (rstS (stpS p2 (stpS p1 (stpS p0 t0))))).2.2.map Value.int)) (ok5 hw) rfl rfl rfl rfl ?_
  refine W.istore d0_284 rfl ?_
  show WB _ l Z n m0 286 [(.val (.int (md))), (.val (.int (a))), (.val (.int (b))), (.val (.int (e))), (.val (.int (f))), (.val (.int (Int32.ofNat m))), (.val (.int (3))), (.val (.int (Int32.ofNat p0))), (.val (.int (Int32.ofNat p1))), (.val (.int (Int32.ofNat p2))), (.val (.int (Int32.ofNat p3))), (.val (.ref 0)), (.val (.ref 3)), (.val (.ref 4)), (.val (.int (1))), (.val (.int (recR p0 (s0 m)))), (.val (.int (stpR p0 t0))), (.val (.int (recR p1 (recS p0 (s0 m))))), (.val (.int (stpR p1 (stpS p0 t0)))), (.val (.int (recR p2 (recS p1 (recS p0 (s0 m)))))), (.val (.int (stpR p2 (stpS p1 (stpS p0 t0))))), (.val (.int (recR p3 (clrS (recS p2 (recS p1 (recS p0 (s0 m)))))))), (.val (.int (stpR p3 (rstS (stpS p2 (stpS p1 (stpS p0 t0))))))), (.val (.int (((recS p3 (clrS (recS p2 (recS p1 (recS p0 (s0 m)))))).2.2.2)))), .unset] [] [.inl ("boundwright/search/Reads", [(("boundwright/search/Reads", "round", "I"), (.int (((recS p3 (clrS (recS p2 (recS p1 (recS p0 (s0 m)))))).2.2.1)))), (("boundwright/search/Reads", "order", "[I"), (.ref 1)), (("boundwright/search/Reads", "seen", "[I"), (.ref 2)), (("boundwright/search/Reads", "size", "I"), (.int (((recS p3 (clrS (recS p2 (recS p1 (recS p0 (s0 m)))))).2.2.2))))]), .inr (.int, ((recS p3 (clrS (recS p2 (recS p1 (recS p0 (s0 m)))))).2.1.map Value.int)), .inr (.int, ((recS p3 (clrS (recS p2 (recS p1 (recS p0 (s0 m)))))).1.map Value.int)), .inr (.int, [(.int (((stpS p3 (rstS (stpS p2 (stpS p1 (stpS p0 t0))))).1))), (.int (((stpS p3 (rstS (stpS p2 (stpS p1 (stpS p0 t0))))).2.1)))]), .inr (.int, ((stpS p3 (rstS (stpS p2 (stpS p1 (stpS p0 t0))))).2.2.map Value.int))] _ _ _
  refine W.aload d0_286 rfl rfl ?_
  refine W.callvV (M' := m6) d0_288 (hw _ (wd 33 rfl)) (hw _ (wd 34 rfl)) (hw _ (wd 35 rfl)) (hw _ (wd 36 rfl)) (c6_1 hw ((recS p3 (clrS (recS p2 (recS p1 (recS p0 (s0 m)))))).2.2.1) ((recS p3 (clrS (recS p2 (recS p1 (recS p0 (s0 m)))))).2.2.2) ((recS p3 (clrS (recS p2 (recS p1 (recS p0 (s0 m)))))).2.1.map Value.int) ((recS p3 (clrS (recS p2 (recS p1 (recS p0 (s0 m)))))).1.map Value.int) ((stpS p3 (rstS (stpS p2 (stpS p1 (stpS p0 t0))))).1) ((stpS p3 (rstS (stpS p2 (stpS p1 (stpS p0 t0))))).2.1) ((stpS p3 (rstS (stpS p2 (stpS p1 (stpS p0 t0))))).2.2.map Value.int)) (ok6 hw) rfl rfl rfl rfl ?_
  refine W.astore d0_291 rfl rfl ?_
  refine W.iload d0_293 rfl ?_
  refine W.if_eq d0_295 (fun h => False.elim (by revert h; decide)) (fun h295 => ?_)
  refine W.iload d0_298 rfl ?_
  refine W.aload d0_300 rfl rfl ?_
  refine W.iconst 1 d0_302 rfl ?_
  refine W.iaload (i := 1) d0_303 rfl ⟨by decide, by decide⟩ rfl ?_
  refine W.icmp_ne d0_304 (fun h => False.elim (h u4')) (fun h304 => ?_)
  refine W.aload d0_307 rfl rfl ?_
  refine W.aload d0_309 rfl rfl ?_
  refine W.aload d0_311 rfl rfl ?_
  refine W.iconst 1 d0_313 rfl ?_
  refine W.iaload (i := 1) d0_314 rfl ⟨by decide, by decide⟩ rfl ?_
  refine W.callsV (M' := m7) d0_315 (hw _ (wd 38 rfl)) (hw _ (wd 39 rfl)) (w7 hw (recS p3 (clrS (recS p2 (recS p1 (recS p0 (s0 m)))))) (stpS p3 (rstS (stpS p2 (stpS p1 (stpS p0 t0))))) u4) (ok7 hw) rfl rfl rfl ?_
  refine W.if_eq d0_318 (fun h => False.elim (by revert h; decide)) (fun h318 => ?_)
  refine W.iconst 1 d0_321 rfl ?_
  refine W.goto d0_322 ?_
  exact W.nreturn .boolean d0_326 rfl (by simp) (by decide) (by decide) (rfl)
set_option maxRecDepth 65536 in
set_option maxHeartbeats 40000000 in
theorem w_law {l : Launch} {Z : State} {a0 : Array Value} {n : Nat} (hw : ∀ d ∈ tables_1, d.before a0 Z = true) (md a b e f : Int32) : W l Z n m0 0 (entryL [.int md, .int a, .int b, .int e, .int f] 25) [] [] 0 0 (fun v _ => v = some (.int 1)) := by
  show W l Z n m0 0 [(.val (.int (md))), (.val (.int (a))), (.val (.int (b))), (.val (.int (e))), (.val (.int (f))), .unset, .unset, .unset, .unset, .unset, .unset, .unset, .unset, .unset, .unset, .unset, .unset, .unset, .unset, .unset, .unset, .unset, .unset, .unset, .unset] [] [] 0 0 _
  refine W.iloadN d0_0 rfl ?_
  refine W.iconst 3 d0_1 rfl ?_
  refine W.iand d0_2 ?_
  obtain ⟨m', hm', em⟩ : ∃ m', m' < 4 ∧ md &&& 3 = Int32.ofNat m' := ⟨_, Nat.lt_succ_of_le (and_nat md 3 3 rfl), of_nat32 rfl⟩
  rw [em]
  refine W.iconst 1 d0_3 rfl ?_
  refine W.iadd d0_4 ?_
  obtain ⟨m, hmm⟩ : ∃ m, m = m' + 1 := ⟨_, rfl⟩
  rw [show Int32.ofNat m' + 1 = Int32.ofNat m from by rw [hmm]; exact (Int32.ofNat_add m' 1).symm]
  have hm : 0 < m ∧ m < 5 := by omega
  refine W.istore d0_5 rfl ?_
  refine W.iloadN d0_7 rfl ?_
  refine W.iconst 2 d0_8 rfl ?_
  refine W.iushr d0_9 ?_
  refine W.iconst 3 d0_10 rfl ?_
  refine W.iand d0_11 ?_
  rcases and_three (XT.ushr md 2) with q12 | q12 | q12 | q12
  · rw [q12]
    refine W.istore d0_12 rfl ?_
    refine W.iloadN d0_14 rfl ?_
    refine W.ldc d0_15 (hw _ (wd 0 rfl)) ?_
    refine W.iand d0_17 ?_
    refine W.iload d0_18 rfl ?_
    refine W.irem d0_20 (own_nz m hm) ?_
    obtain ⟨p0, hp0, e0⟩ := rem_nat (a &&& 2147483647) (Int32.ofNat m) m ((c_andS a 2147483647).2.2 (by decide)) (own_i (by omega)) hm.1 (by omega)
    rw [e0]
    refine W.istore d0_21 rfl ?_
    refine W.iloadN d0_23 rfl ?_
    refine W.ldc d0_24 (hw _ (wd 0 rfl)) ?_
    refine W.iand d0_26 ?_
    refine W.iload d0_27 rfl ?_
    refine W.irem d0_29 (own_nz m hm) ?_
    obtain ⟨p1, hp1, e1⟩ := rem_nat (b &&& 2147483647) (Int32.ofNat m) m ((c_andS b 2147483647).2.2 (by decide)) (own_i (by omega)) hm.1 (by omega)
    rw [e1]
    refine W.istore d0_30 rfl ?_
    show WB _ l Z n m0 32 [(.val (.int (md))), (.val (.int (a))), (.val (.int (b))), (.val (.int (e))), (.val (.int (f))), (.val (.int (Int32.ofNat m))), (.val (.int (0))), (.val (.int (Int32.ofNat p0))), (.val (.int (Int32.ofNat p1))), .unset, .unset, .unset, .unset, .unset, .unset, .unset, .unset, .unset, .unset, .unset, .unset, .unset, .unset, .unset, .unset] [] [] _ _ _
    refine W.iloadN d0_32 rfl ?_
    refine W.ldc d0_33 (hw _ (wd 0 rfl)) ?_
    refine W.iand d0_35 ?_
    refine W.iload d0_36 rfl ?_
    refine W.irem d0_38 (own_nz m hm) ?_
    obtain ⟨p2, hp2, e2⟩ := rem_nat (e &&& 2147483647) (Int32.ofNat m) m ((c_andS e 2147483647).2.2 (by decide)) (own_i (by omega)) hm.1 (by omega)
    rw [e2]
    refine W.istore d0_39 rfl ?_
    refine W.iload d0_41 rfl ?_
    refine W.ldc d0_43 (hw _ (wd 0 rfl)) ?_
    refine W.iand d0_45 ?_
    refine W.iload d0_46 rfl ?_
    refine W.irem d0_48 (own_nz m hm) ?_
    obtain ⟨p3, hp3, e3⟩ := rem_nat (f &&& 2147483647) (Int32.ofNat m) m ((c_andS f 2147483647).2.2 (by decide)) (own_i (by omega)) hm.1 (by omega)
    rw [e3]
    refine W.istore d0_49 rfl ?_
    exact law0 hw md a b e f m p0 p1 p2 p3 hm hp0 hp1 hp2 hp3
  · rw [q12]
    refine W.istore d0_12 rfl ?_
    refine W.iloadN d0_14 rfl ?_
    refine W.ldc d0_15 (hw _ (wd 0 rfl)) ?_
    refine W.iand d0_17 ?_
    refine W.iload d0_18 rfl ?_
    refine W.irem d0_20 (own_nz m hm) ?_
    obtain ⟨p0, hp0, e0⟩ := rem_nat (a &&& 2147483647) (Int32.ofNat m) m ((c_andS a 2147483647).2.2 (by decide)) (own_i (by omega)) hm.1 (by omega)
    rw [e0]
    refine W.istore d0_21 rfl ?_
    refine W.iloadN d0_23 rfl ?_
    refine W.ldc d0_24 (hw _ (wd 0 rfl)) ?_
    refine W.iand d0_26 ?_
    refine W.iload d0_27 rfl ?_
    refine W.irem d0_29 (own_nz m hm) ?_
    obtain ⟨p1, hp1, e1⟩ := rem_nat (b &&& 2147483647) (Int32.ofNat m) m ((c_andS b 2147483647).2.2 (by decide)) (own_i (by omega)) hm.1 (by omega)
    rw [e1]
    refine W.istore d0_30 rfl ?_
    show WB _ l Z n m0 32 [(.val (.int (md))), (.val (.int (a))), (.val (.int (b))), (.val (.int (e))), (.val (.int (f))), (.val (.int (Int32.ofNat m))), (.val (.int (1))), (.val (.int (Int32.ofNat p0))), (.val (.int (Int32.ofNat p1))), .unset, .unset, .unset, .unset, .unset, .unset, .unset, .unset, .unset, .unset, .unset, .unset, .unset, .unset, .unset, .unset] [] [] _ _ _
    refine W.iloadN d0_32 rfl ?_
    refine W.ldc d0_33 (hw _ (wd 0 rfl)) ?_
    refine W.iand d0_35 ?_
    refine W.iload d0_36 rfl ?_
    refine W.irem d0_38 (own_nz m hm) ?_
    obtain ⟨p2, hp2, e2⟩ := rem_nat (e &&& 2147483647) (Int32.ofNat m) m ((c_andS e 2147483647).2.2 (by decide)) (own_i (by omega)) hm.1 (by omega)
    rw [e2]
    refine W.istore d0_39 rfl ?_
    refine W.iload d0_41 rfl ?_
    refine W.ldc d0_43 (hw _ (wd 0 rfl)) ?_
    refine W.iand d0_45 ?_
    refine W.iload d0_46 rfl ?_
    refine W.irem d0_48 (own_nz m hm) ?_
    obtain ⟨p3, hp3, e3⟩ := rem_nat (f &&& 2147483647) (Int32.ofNat m) m ((c_andS f 2147483647).2.2 (by decide)) (own_i (by omega)) hm.1 (by omega)
    rw [e3]
    refine W.istore d0_49 rfl ?_
    exact law1 hw md a b e f m p0 p1 p2 p3 hm hp0 hp1 hp2 hp3
  · rw [q12]
    refine W.istore d0_12 rfl ?_
    refine W.iloadN d0_14 rfl ?_
    refine W.ldc d0_15 (hw _ (wd 0 rfl)) ?_
    refine W.iand d0_17 ?_
    refine W.iload d0_18 rfl ?_
    refine W.irem d0_20 (own_nz m hm) ?_
    obtain ⟨p0, hp0, e0⟩ := rem_nat (a &&& 2147483647) (Int32.ofNat m) m ((c_andS a 2147483647).2.2 (by decide)) (own_i (by omega)) hm.1 (by omega)
    rw [e0]
    refine W.istore d0_21 rfl ?_
    refine W.iloadN d0_23 rfl ?_
    refine W.ldc d0_24 (hw _ (wd 0 rfl)) ?_
    refine W.iand d0_26 ?_
    refine W.iload d0_27 rfl ?_
    refine W.irem d0_29 (own_nz m hm) ?_
    obtain ⟨p1, hp1, e1⟩ := rem_nat (b &&& 2147483647) (Int32.ofNat m) m ((c_andS b 2147483647).2.2 (by decide)) (own_i (by omega)) hm.1 (by omega)
    rw [e1]
    refine W.istore d0_30 rfl ?_
    show WB _ l Z n m0 32 [(.val (.int (md))), (.val (.int (a))), (.val (.int (b))), (.val (.int (e))), (.val (.int (f))), (.val (.int (Int32.ofNat m))), (.val (.int (2))), (.val (.int (Int32.ofNat p0))), (.val (.int (Int32.ofNat p1))), .unset, .unset, .unset, .unset, .unset, .unset, .unset, .unset, .unset, .unset, .unset, .unset, .unset, .unset, .unset, .unset] [] [] _ _ _
    refine W.iloadN d0_32 rfl ?_
    refine W.ldc d0_33 (hw _ (wd 0 rfl)) ?_
    refine W.iand d0_35 ?_
    refine W.iload d0_36 rfl ?_
    refine W.irem d0_38 (own_nz m hm) ?_
    obtain ⟨p2, hp2, e2⟩ := rem_nat (e &&& 2147483647) (Int32.ofNat m) m ((c_andS e 2147483647).2.2 (by decide)) (own_i (by omega)) hm.1 (by omega)
    rw [e2]
    refine W.istore d0_39 rfl ?_
    refine W.iload d0_41 rfl ?_
    refine W.ldc d0_43 (hw _ (wd 0 rfl)) ?_
    refine W.iand d0_45 ?_
    refine W.iload d0_46 rfl ?_
    refine W.irem d0_48 (own_nz m hm) ?_
    obtain ⟨p3, hp3, e3⟩ := rem_nat (f &&& 2147483647) (Int32.ofNat m) m ((c_andS f 2147483647).2.2 (by decide)) (own_i (by omega)) hm.1 (by omega)
    rw [e3]
    refine W.istore d0_49 rfl ?_
    exact law2 hw md a b e f m p0 p1 p2 p3 hm hp0 hp1 hp2 hp3
  · rw [q12]
    refine W.istore d0_12 rfl ?_
    refine W.iloadN d0_14 rfl ?_
    refine W.ldc d0_15 (hw _ (wd 0 rfl)) ?_
    refine W.iand d0_17 ?_
    refine W.iload d0_18 rfl ?_
    refine W.irem d0_20 (own_nz m hm) ?_
    obtain ⟨p0, hp0, e0⟩ := rem_nat (a &&& 2147483647) (Int32.ofNat m) m ((c_andS a 2147483647).2.2 (by decide)) (own_i (by omega)) hm.1 (by omega)
    rw [e0]
    refine W.istore d0_21 rfl ?_
    refine W.iloadN d0_23 rfl ?_
    refine W.ldc d0_24 (hw _ (wd 0 rfl)) ?_
    refine W.iand d0_26 ?_
    refine W.iload d0_27 rfl ?_
    refine W.irem d0_29 (own_nz m hm) ?_
    obtain ⟨p1, hp1, e1⟩ := rem_nat (b &&& 2147483647) (Int32.ofNat m) m ((c_andS b 2147483647).2.2 (by decide)) (own_i (by omega)) hm.1 (by omega)
    rw [e1]
    refine W.istore d0_30 rfl ?_
    show WB _ l Z n m0 32 [(.val (.int (md))), (.val (.int (a))), (.val (.int (b))), (.val (.int (e))), (.val (.int (f))), (.val (.int (Int32.ofNat m))), (.val (.int (3))), (.val (.int (Int32.ofNat p0))), (.val (.int (Int32.ofNat p1))), .unset, .unset, .unset, .unset, .unset, .unset, .unset, .unset, .unset, .unset, .unset, .unset, .unset, .unset, .unset, .unset] [] [] _ _ _
    refine W.iloadN d0_32 rfl ?_
    refine W.ldc d0_33 (hw _ (wd 0 rfl)) ?_
    refine W.iand d0_35 ?_
    refine W.iload d0_36 rfl ?_
    refine W.irem d0_38 (own_nz m hm) ?_
    obtain ⟨p2, hp2, e2⟩ := rem_nat (e &&& 2147483647) (Int32.ofNat m) m ((c_andS e 2147483647).2.2 (by decide)) (own_i (by omega)) hm.1 (by omega)
    rw [e2]
    refine W.istore d0_39 rfl ?_
    refine W.iload d0_41 rfl ?_
    refine W.ldc d0_43 (hw _ (wd 0 rfl)) ?_
    refine W.iand d0_45 ?_
    refine W.iload d0_46 rfl ?_
    refine W.irem d0_48 (own_nz m hm) ?_
    obtain ⟨p3, hp3, e3⟩ := rem_nat (f &&& 2147483647) (Int32.ofNat m) m ((c_andS f 2147483647).2.2 (by decide)) (own_i (by omega)) hm.1 (by omega)
    rw [e3]
    refine W.istore d0_49 rfl ?_
    exact law3 hw md a b e f m p0 p1 p2 p3 hm hp0 hp1 hp2 hp3
set_option maxRecDepth 65536 in
set_option maxHeartbeats 40000000 in
theorem comes_1 {Post : Tables → Env → Array Value → State → Outcome → State → Prop} (hpost : ∀ tb e args s v u, (limb_1_1.after args s (.returned v) u = true ∧ limb_1_2.after args s (.returned v) u = true ∧ True) → FrameEnd s (.returned v) u (Jvm.fieldLocs frame_1_writes args s ++ Jvm.arrayLocs frame_1_arrays args s ++ Jvm.staticLocs frame_1_statics s) 24 128 → Post tb e args s (.returned v) u) :
    ArmFor flags0 classFile x code maxLocals ret World_1 tables_1 room_1 Calls_1 rest_1 Pre_1 Post := by
  intro l hfl _ _ p e ha hc hk s m args below hf hA hF happ hP
  obtain ⟨hcalls, hrest, hpre⟩ := hP
  obtain ⟨-, -, -, hnamed, -, -, -, hat⟩ := (Spec.applies_iff hf).mp happ
  obtain ⟨hg, hn⟩ := and_e (Cond.before_iff.mp (show (Jvm.Cond.and given_1 narrow_1).before args s = true from hpre))
  obtain ⟨hcnt, g0⟩ := and_e hg
  obtain ⟨q0, g1⟩ := and_e g0
  obtain ⟨q1, g2⟩ := and_e g1
  obtain ⟨q2, g3⟩ := and_e g2
  obtain ⟨q3, g4⟩ := and_e g3
  obtain ⟨w0, w1, w2, w3, w4, rfl⟩ : ∃ w0 w1 w2 w3 w4 : Value, args = #[w0, w1, w2, w3, w4] := by
    have hs : args.size = 5 := by simpa [Cond.value, given_1] using hcnt
    obtain ⟨L⟩ := args
    match L, hs with
    | [w0, w1, w2, w3, w4], _ => exact ⟨w0, w1, w2, w3, w4, rfl⟩
  have hw := fun d (hd : d ∈ tables_1) => atoms_spec (ws := Jvm.Cond.code x code maxLocals ret :: tables_1) hat d (List.mem_cons_of_mem _ hd)
  obtain ⟨i0, ei0⟩ := is_v q0
  obtain rfl : w0 = (.int i0) := Option.some.inj ei0
  obtain ⟨i1, ei1⟩ := is_v q1
  obtain rfl : w1 = (.int i1) := Option.some.inj ei1
  obtain ⟨i2, ei2⟩ := is_v q2
  obtain rfl : w2 = (.int i2) := Option.some.inj ei2
  obtain ⟨i3, ei3⟩ := is_v q3
  obtain rfl : w3 = (.int i3) := Option.some.inj ei3
  obtain ⟨i4, ei4⟩ := is_v g4
  obtain rfl : w4 = (.int i4) := Option.some.inj ei4
  obtain ⟨n, o, h1, h2, h3, _, L, rfl, ⟨v0, H', rfl, rfl, hH, N⟩, hq⟩ := W.start (M := m0) (w_law (l := l) hw i0 i1 i2 i3 i4) pn0 tables_1 p e ha hc hk s m _ below hf ((Spec.applies_iff_loose hf).mp happ).1 ⟨rfl, State.Warmed39.refl s, rfl⟩ trivial
  refine ⟨n, _, h1, h2, h3, hpost _ _ _ _ _ _ ⟨Cond.after_iff.mpr rfl, Cond.after_iff.mpr (eq_i res_at (Term.int_eval (1)) rfl), trivial⟩ ⟨hq.1, hq.2.1, (hq.2.2.sift fun y hy => Or.inr (N y hy)).mono (by decide) (by decide)⟩⟩
theorem main_1_1 : Claimed_1_1 := comes_1 fun _ _ _ _ _ _ h hF => ⟨h.1, hF⟩
theorem main_1_2 : Claimed_1_2 := comes_1 fun _ _ _ _ _ _ h hF => ⟨h.2.1, hF⟩
end Jvm.Pilot.@@N@@
namespace Jvm.Pilot.@@N@@
open Jvm Jvm.ClassFile Sem Op Lib Jvm.Free Jvm.Stand Jvm.Pilot.@@N@@.Jvm.D
/-! MADE BY PROGRAM (witnessworld.py) out of the Statement's table words and the real class files: 9 classes; the members and pool entries that the words name. The judged class is class 1, her method 4. -/
namespace start1
open Jvm.ClassFile
def u (s : String) : CpInfo := .utf8 (stringToUtf16 s)
/-- a pool by its gaps: so many unusable entries, then the entry; so many at the end -/
def gap : Nat → List CpInfo → List CpInfo
  | 0, r => r
  | n + 1, r => .unusable :: gap n r
def poolList (es : List (Nat × CpInfo)) (last : Nat) : List CpInfo := es.foldr (fun e r => gap e.1 (e.2 :: r)) (gap last [])
def pool (es : List (Nat × CpInfo)) (last : Nat) : Array CpInfo := ⟨poolList es last⟩
def fileOf (pool : Array CpInfo) (this : Nat) (attrs : Array Attribute := #[]) (ms : Array MethodInfo := #[]) (fl : Nat := 33) (sup : Nat := 0) (ifs : Array Nat := #[]) (fds : Array FieldInfo := #[]) : ClassFile where
  minorVersion := 0
  majorVersion := 65
  constantPool := pool
  accessFlags := fl
  thisClass := this
  superClass := sup
  interfaces := ifs
  fields := fds
  methods := ms
  attributes := attrs
def plain (name : String) (sup : Option ClassId) : Class where
  name := name
  kind := .ordinary
  loader := none
  accessFlags := 33
  super := sup
  interfaces := #[]
  cf := none
  fields := #[]
  methods := #[]
  instanceTypes := #[]
  staticTypes := #[]
  resolved := #[]
  callSites := []
  init := .initialized
  statics := none
  mirror := none

def pool0 : Array CpInfo := pool [(5, u "<init>"), (0, u "()V"), (1, .class_ 10), (1, u "java/lang/Object")] 113

def k0c0 : Code := { maxStack := 0, maxLocals := 1, code := object_method_1_code, exceptionTable := #[], attributes := #[] }
def k0m0 : Method := { name := "<init>", desc := "()V", sig := { parameters := [], returnType := none }, accessFlags := 1, code := some k0c0 }
/-- java/lang/Object -/
def k0 : Class := { plain "java/lang/Object" none with
  accessFlags := 33
  interfaces := #[]
  cf := some (fileOf pool0 8 #[] #[{ accessFlags := 1, nameIndex := 5, descriptorIndex := 6, attributes := #[] }] 33 0 #[] #[])
  fields := #[]
  methods := #[k0m0]
  instanceTypes := #[]
  staticTypes := #[]
  resolved := Array.replicate 124 none
  statics := none }

def pool1 : Array CpInfo := pool [(2, .class_ 4), (1, u "java/lang/Object"), (0, u "<init>"), (0, u "()V"), (0, .integer 2147483647), (0, .class_ 9), (0, u "boundwright/search/Reads"), (0, .methodref 8 11), (0, .nameAndType 5 12), (0, u "(I)V"), (0, .methodref 8 14), (0, .nameAndType 15 16), (0, u "record"), (0, u "(I)Z"), (0, .methodref 18 19), (0, .class_ 20), (0, .nameAndType 21 22), (0, u "boundwright/search/ReadsRecordPinLaw"), (0, u "step"), (0, u "([I[II)Z"), (0, .methodref 8 24), (0, .nameAndType 25 6), (0, u "clear"), (0, .methodref 18 27), (0, .nameAndType 28 29), (0, u "reset"), (0, u "([I)V"), (0, .methodref 8 31), (0, .nameAndType 32 33), (0, u "size"), (0, u "()I"), (0, .methodref 8 35), (0, .nameAndType 36 37), (0, u "order"), (0, u "()[I"), (0, .methodref 18 39), (0, .nameAndType 40 22), (0, u "orderOk"), (3, u "law"), (0, u "(IIIII)Z")] 4

def k1m0 : Method := { name := "<init>", desc := "()V", sig := { parameters := [], returnType := none }, accessFlags := 1, code := none }
def k1c1 : Code := { maxStack := 4, maxLocals := 4, code := method_2_code, exceptionTable := #[], attributes := #[] }
def k1m1 : Method := { name := "step", desc := "([I[II)Z", sig := { parameters := [(.array .int), (.array .int), .int], returnType := some .boolean }, accessFlags := 10, code := some k1c1 }
def k1c2 : Code := { maxStack := 3, maxLocals := 1, code := method_3_code, exceptionTable := #[], attributes := #[] }
def k1m2 : Method := { name := "reset", desc := "([I)V", sig := { parameters := [(.array .int)], returnType := none }, accessFlags := 10, code := some k1c2 }
def k1c3 : Code := { maxStack := 3, maxLocals := 3, code := method_4_code, exceptionTable := #[], attributes := #[] }
def k1m3 : Method := { name := "orderOk", desc := "([I[II)Z", sig := { parameters := [(.array .int), (.array .int), .int], returnType := some .boolean }, accessFlags := 10, code := some k1c3 }
def k1c4 : Code := { maxStack := 4, maxLocals := 25, code := code, exceptionTable := #[], attributes := #[] }
def k1m4 : Method := { name := "law", desc := "(IIIII)Z", sig := { parameters := [.int, .int, .int, .int, .int], returnType := some .boolean }, accessFlags := 9, code := some k1c4 }
/-- boundwright/search/ReadsRecordPinLaw -/
def k1 : Class := { plain "boundwright/search/ReadsRecordPinLaw" (some 0) with
  accessFlags := 49
  interfaces := #[]
  cf := some (fileOf pool1 18 #[] #[{ accessFlags := 1, nameIndex := 5, descriptorIndex := 6, attributes := #[] }, { accessFlags := 10, nameIndex := 21, descriptorIndex := 22, attributes := #[] }, { accessFlags := 10, nameIndex := 28, descriptorIndex := 29, attributes := #[] }, { accessFlags := 10, nameIndex := 40, descriptorIndex := 22, attributes := #[] }, { accessFlags := 9, nameIndex := 44, descriptorIndex := 45, attributes := #[] }] 49 2 #[] #[])
  fields := #[]
  methods := #[k1m0, k1m1, k1m2, k1m3, k1m4]
  instanceTypes := #[]
  staticTypes := #[]
  resolved := Array.replicate 50 none
  statics := none }

def pool2 : Array CpInfo := pool [(1, .methodref 2 3), (0, .class_ 4), (0, .nameAndType 5 6), (0, u "java/lang/Object"), (0, u "<init>"), (0, u "()V"), (0, .fieldref 8 9), (0, .class_ 10), (0, .nameAndType 11 12), (0, u "boundwright/search/Reads"), (0, u "round"), (0, u "I"), (0, .fieldref 8 14), (0, .nameAndType 15 16), (0, u "order"), (0, u "[I"), (0, .fieldref 8 18), (0, .nameAndType 19 16), (0, u "seen"), (0, .fieldref 8 21), (0, .nameAndType 22 12), (0, u "size"), (6, u "(I)V"), (2, u "record"), (0, u "(I)Z"), (1, u "()I"), (2, u "()[I"), (0, u "clear")] 2

def k2c0 : Code := { maxStack := 2, maxLocals := 2, code := prog_65_method_1_code, exceptionTable := #[], attributes := #[] }
def k2m0 : Method := { name := "<init>", desc := "(I)V", sig := { parameters := [.int], returnType := none }, accessFlags := 0, code := some k2c0 }
def k2c1 : Code := { maxStack := 5, maxLocals := 2, code := prog_65_method_2_code, exceptionTable := #[], attributes := #[] }
def k2m1 : Method := { name := "record", desc := "(I)Z", sig := { parameters := [.int], returnType := some .boolean }, accessFlags := 1, code := some k2c1 }
def k2c2 : Code := { maxStack := 1, maxLocals := 1, code := prog_65_method_3_code, exceptionTable := #[], attributes := #[] }
def k2m2 : Method := { name := "size", desc := "()I", sig := { parameters := [], returnType := some .int }, accessFlags := 0, code := some k2c2 }
def k2c3 : Code := { maxStack := 1, maxLocals := 1, code := prog_65_method_5_code, exceptionTable := #[], attributes := #[] }
def k2m3 : Method := { name := "order", desc := "()[I", sig := { parameters := [], returnType := some (.array .int) }, accessFlags := 0, code := some k2c3 }
def k2c4 : Code := { maxStack := 3, maxLocals := 1, code := prog_65_method_6_code, exceptionTable := #[], attributes := #[] }
def k2m4 : Method := { name := "clear", desc := "()V", sig := { parameters := [], returnType := none }, accessFlags := 1, code := some k2c4 }
/-- boundwright/search/Reads -/
def k2 : Class := { plain "boundwright/search/Reads" (some 0) with
  accessFlags := 49
  interfaces := #[]
  cf := some (fileOf pool2 8 #[] #[{ accessFlags := 0, nameIndex := 5, descriptorIndex := 29, attributes := #[] }, { accessFlags := 1, nameIndex := 32, descriptorIndex := 33, attributes := #[] }, { accessFlags := 0, nameIndex := 22, descriptorIndex := 35, attributes := #[] }, { accessFlags := 0, nameIndex := 15, descriptorIndex := 38, attributes := #[] }, { accessFlags := 1, nameIndex := 39, descriptorIndex := 6, attributes := #[] }] 49 2 #[] #[{ accessFlags := 18, nameIndex := 15, descriptorIndex := 16, attributes := #[] }, { accessFlags := 18, nameIndex := 19, descriptorIndex := 16, attributes := #[] }, { accessFlags := 2, nameIndex := 11, descriptorIndex := 12, attributes := #[] }, { accessFlags := 2, nameIndex := 22, descriptorIndex := 12, attributes := #[] }])
  fields := #[{ name := "order", type := (.array .int), accessFlags := 18, slot := 0, constantValue := 0 }, { name := "seen", type := (.array .int), accessFlags := 18, slot := 1, constantValue := 0 }, { name := "round", type := .int, accessFlags := 2, slot := 2, constantValue := 0 }, { name := "size", type := .int, accessFlags := 2, slot := 3, constantValue := 0 }]
  methods := #[k2m0, k2m1, k2m2, k2m3, k2m4]
  instanceTypes := #[(.array .int), (.array .int), .int, .int]
  staticTypes := #[]
  resolved := Array.replicate 42 none
  statics := none }

def pool3 : Array CpInfo := pool [(1, u "java/lang/Cloneable"), (0, .class_ 1), (0, u "java/lang/Object"), (0, .class_ 3)] 3

/-- java/lang/Cloneable -/
def k3 : Class := { plain "java/lang/Cloneable" (some 0) with
  accessFlags := 1537
  interfaces := #[]
  cf := some (fileOf pool3 2 #[] #[] 1537 4 #[] #[])
  fields := #[]
  methods := #[]
  instanceTypes := #[]
  staticTypes := #[]
  resolved := Array.replicate 8 none
  statics := none }

def pool4 : Array CpInfo := pool [(1, u "java/io/Serializable"), (0, .class_ 1), (0, u "java/lang/Object"), (0, .class_ 3)] 3

/-- java/io/Serializable -/
def k4 : Class := { plain "java/io/Serializable" (some 0) with
  accessFlags := 1537
  interfaces := #[]
  cf := some (fileOf pool4 2 #[] #[] 1537 4 #[] #[])
  fields := #[]
  methods := #[]
  instanceTypes := #[]
  staticTypes := #[]
  resolved := Array.replicate 8 none
  statics := none }

/-- the primitive byte -/
def k5 : Class := { plain "byte" none with kind := .primitive 'B', accessFlags := 0x411 }
/-- [B -/
def k6 : Class := { plain "[B" (some 0) with kind := .array 5 .byte, interfaces := #[3, 4], accessFlags := 1041 }

/-- the primitive int -/
def k7 : Class := { plain "int" none with kind := .primitive 'I', accessFlags := 0x411 }
/-- [I -/
def k8 : Class := { plain "[I" (some 0) with kind := .array 7 .int, interfaces := #[3, 4], accessFlags := 1041 }

def heap : Heap := #[]
def classes : Array Class := #[k0, k1, k2, k3, k4, k5, k6, k7, k8]
def interned : List (Array UInt16 × Addr) := []
def slotsUsed : Nat := 0
def theMethod : MethodId := ⟨1, 4⟩
def args0 : Array Value := #[.int 5, .int 7, .int 9, .int 2, .int 3]
def aboutOver (below : List Frame) : State where
  vm := { classes := classes, interned := interned.toArray }
  heap := heap
  slotsUsed := slotsUsed
  threads := #[{ frames := .invoking theMethod args0 :: below }]
def below0 : List Frame := [.native { method := ⟨0, 0⟩, args := #[] }]
def about1 : State := aboutOver below0
def p0 : Program := .bare "" "" ""
def e0 : Env := launch0.env 0 0 0
theorem w_frames : about1.frames = Frame.invoking theMethod args0 :: below0 := rfl
set_option maxRecDepth 65536 in
theorem w_args : argsFit about1.vm theMethod args0 = true := by decide +kernel
set_option maxRecDepth 65536 in
theorem w_heap : heapFits about1 = true := by decide +kernel
set_option maxRecDepth 65536 in
theorem w_runnable : about1.curStatus? = some .runnable := by decide +kernel
set_option maxRecDepth 65536 in
theorem w_alone : about1.alone = true := by decide +kernel
set_option maxRecDepth 65536 in
theorem w_named : about1.methodNamed? x = some theMethod := by decide +kernel
set_option maxRecDepth 65536 in
theorem w_hears : about1.hears theMethod below0 = true := by decide +kernel
set_option maxRecDepth 65536 in
theorem w_ripe : about1.ripe theMethod args0 below0 = true := by decide +kernel
theorem w_running : about1.status = .running := rfl
set_option maxRecDepth 65536 in
theorem w_room : about1.hasRoom e0.platform room_1 = true :=
  launch0.hasRoom_least _ room_1 (by decide +kernel) (by decide +kernel) (by decide +kernel) (by decide +kernel) (by decide +kernel) (by decide +kernel)
theorem allAtoms_all (ts : List Jvm.Cond) (a : Array Jvm.Value) (st : Jvm.State) : (allAtoms ts).before a st = ts.all (fun c => c.before a st) := by
  induction ts with
  | nil => rfl
  | cons c t ih =>
    show (Jvm.Cond.and c (allAtoms t)).before a st = _
    rw [Jvm.Cond.before_and, ih, List.all_cons]
def words1 : List Jvm.Cond := Jvm.Cond.code x code maxLocals ret :: tables_1
/-- a 'code' word, met by the world's own term for the bytes: nothing is compared byte by byte -/
theorem code_word {y : MethodName} {bytes : ByteArray} {mx : Nat} {rt : Option FieldType} {a : Array Value} {s : State} {m : MethodId} {meth : Method} {c : Code} (h1 : s.methodNamed? y = some m) (h2 : s.vm.method? m = some meth) (h3 : meth.code = some c) (h4 : c.code = bytes)
    (h5 : (c.maxLocals == mx && c.exceptionTable.isEmpty && decide (c.maxStack ≤ mostOperands) && decide (meth.sig.returnType = rt) && !meth.locks && decide (parseMethodDescriptor y.desc = some meth.sig)) = true) : (Jvm.Cond.code y bytes mx rt).before a s = true := by
  simp only [Bool.and_eq_true, beq_iff_eq, Bool.not_eq_true', decide_eq_true_eq] at h5
  obtain ⟨⟨⟨⟨⟨g1, g2⟩, g3⟩, g4⟩, g5⟩, g6⟩ := h5
  simp [Cond.before, Cond.holds, Cond.value, h1, h2, h3, h4, g1, g2, g3, g4, g5, g6]
def isCode : Jvm.Cond → Bool
  | .code _ _ _ _ => true
  | _ => false
theorem all_split {L : List Jvm.Cond} {P : Jvm.Cond → Bool} (h1 : L.all (fun c => isCode c || P c) = true) (h2 : ∀ c ∈ L.filter isCode, P c = true) : L.all P = true := by
  refine List.all_eq_true.mpr fun c hc => ?_
  have h := List.all_eq_true.mp h1 c hc
  rcases Bool.eq_false_or_eq_true (isCode c) with hi | hi
  · exact h2 c (List.mem_filter.mpr ⟨hc, hi⟩)
  · simpa [hi] using h
set_option maxRecDepth 65536 in
theorem w_c0 : (Jvm.Cond.code x code maxLocals ret).before args0 about1 = true := code_word (m := ⟨1, 4⟩) (meth := k1m4) (c := k1c4) (by decide +kernel) rfl rfl rfl (by decide +kernel)
set_option maxRecDepth 65536 in
theorem w_c1 : (Jvm.Cond.code ({ cls := "boundwright/search/Reads", name := "<init>", desc := "(I)V" } : Jvm.MethodName) prog_65_method_1_code (2 : Nat) (Option.none : Option Jvm.ClassFile.FieldType)).before args0 about1 = true := code_word (m := ⟨2, 0⟩) (meth := k2m0) (c := k2c0) (by decide +kernel) rfl rfl rfl (by decide +kernel)
set_option maxRecDepth 65536 in
theorem w_c2 : (Jvm.Cond.code ({ cls := "java/lang/Object", name := "<init>", desc := "()V" } : Jvm.MethodName) object_method_1_code (1 : Nat) (Option.none : Option Jvm.ClassFile.FieldType)).before args0 about1 = true := code_word (m := ⟨0, 0⟩) (meth := k0m0) (c := k0c0) (by decide +kernel) rfl rfl rfl (by decide +kernel)
set_option maxRecDepth 65536 in
theorem w_c3 : (Jvm.Cond.code ({ cls := "boundwright/search/Reads", name := "record", desc := "(I)Z" } : Jvm.MethodName) prog_65_method_2_code (2 : Nat) (Option.some Jvm.ClassFile.FieldType.boolean)).before args0 about1 = true := code_word (m := ⟨2, 1⟩) (meth := k2m1) (c := k2c1) (by decide +kernel) rfl rfl rfl (by decide +kernel)
set_option maxRecDepth 65536 in
theorem w_c4 : (Jvm.Cond.code ({ cls := "boundwright/search/ReadsRecordPinLaw", name := "step", desc := "([I[II)Z" } : Jvm.MethodName) method_2_code (4 : Nat) (Option.some Jvm.ClassFile.FieldType.boolean)).before args0 about1 = true := code_word (m := ⟨1, 1⟩) (meth := k1m1) (c := k1c1) (by decide +kernel) rfl rfl rfl (by decide +kernel)
set_option maxRecDepth 65536 in
theorem w_c5 : (Jvm.Cond.code ({ cls := "boundwright/search/Reads", name := "size", desc := "()I" } : Jvm.MethodName) prog_65_method_3_code (1 : Nat) (Option.some Jvm.ClassFile.FieldType.int)).before args0 about1 = true := code_word (m := ⟨2, 2⟩) (meth := k2m2) (c := k2c2) (by decide +kernel) rfl rfl rfl (by decide +kernel)
set_option maxRecDepth 65536 in
theorem w_c6 : (Jvm.Cond.code ({ cls := "boundwright/search/Reads", name := "order", desc := "()[I" } : Jvm.MethodName) prog_65_method_5_code (1 : Nat) (Option.some (Jvm.ClassFile.FieldType.array Jvm.ClassFile.FieldType.int))).before args0 about1 = true := code_word (m := ⟨2, 3⟩) (meth := k2m3) (c := k2c3) (by decide +kernel) rfl rfl rfl (by decide +kernel)
set_option maxRecDepth 65536 in
theorem w_c7 : (Jvm.Cond.code ({ cls := "boundwright/search/ReadsRecordPinLaw", name := "orderOk", desc := "([I[II)Z" } : Jvm.MethodName) method_4_code (3 : Nat) (Option.some Jvm.ClassFile.FieldType.boolean)).before args0 about1 = true := code_word (m := ⟨1, 3⟩) (meth := k1m3) (c := k1c3) (by decide +kernel) rfl rfl rfl (by decide +kernel)
set_option maxRecDepth 65536 in
theorem w_c8 : (Jvm.Cond.code ({ cls := "boundwright/search/Reads", name := "clear", desc := "()V" } : Jvm.MethodName) prog_65_method_6_code (1 : Nat) (Option.none : Option Jvm.ClassFile.FieldType)).before args0 about1 = true := code_word (m := ⟨2, 4⟩) (meth := k2m4) (c := k2c4) (by decide +kernel) rfl rfl rfl (by decide +kernel)
set_option maxRecDepth 65536 in
theorem w_c9 : (Jvm.Cond.code ({ cls := "boundwright/search/ReadsRecordPinLaw", name := "reset", desc := "([I)V" } : Jvm.MethodName) method_3_code (1 : Nat) (Option.none : Option Jvm.ClassFile.FieldType)).before args0 about1 = true := code_word (m := ⟨1, 2⟩) (meth := k1m2) (c := k1c2) (by decide +kernel) rfl rfl rfl (by decide +kernel)
def codes1 : List Jvm.Cond := [Jvm.Cond.code x code maxLocals ret, Jvm.Cond.code ({ cls := "boundwright/search/Reads", name := "<init>", desc := "(I)V" } : Jvm.MethodName) prog_65_method_1_code (2 : Nat) (Option.none : Option Jvm.ClassFile.FieldType), Jvm.Cond.code ({ cls := "java/lang/Object", name := "<init>", desc := "()V" } : Jvm.MethodName) object_method_1_code (1 : Nat) (Option.none : Option Jvm.ClassFile.FieldType), Jvm.Cond.code ({ cls := "boundwright/search/Reads", name := "record", desc := "(I)Z" } : Jvm.MethodName) prog_65_method_2_code (2 : Nat) (Option.some Jvm.ClassFile.FieldType.boolean), Jvm.Cond.code ({ cls := "boundwright/search/ReadsRecordPinLaw", name := "step", desc := "([I[II)Z" } : Jvm.MethodName) method_2_code (4 : Nat) (Option.some Jvm.ClassFile.FieldType.boolean), Jvm.Cond.code ({ cls := "boundwright/search/Reads", name := "size", desc := "()I" } : Jvm.MethodName) prog_65_method_3_code (1 : Nat) (Option.some Jvm.ClassFile.FieldType.int), Jvm.Cond.code ({ cls := "boundwright/search/Reads", name := "order", desc := "()[I" } : Jvm.MethodName) prog_65_method_5_code (1 : Nat) (Option.some (Jvm.ClassFile.FieldType.array Jvm.ClassFile.FieldType.int)), Jvm.Cond.code ({ cls := "boundwright/search/ReadsRecordPinLaw", name := "orderOk", desc := "([I[II)Z" } : Jvm.MethodName) method_4_code (3 : Nat) (Option.some Jvm.ClassFile.FieldType.boolean), Jvm.Cond.code ({ cls := "boundwright/search/Reads", name := "clear", desc := "()V" } : Jvm.MethodName) prog_65_method_6_code (1 : Nat) (Option.none : Option Jvm.ClassFile.FieldType), Jvm.Cond.code ({ cls := "boundwright/search/ReadsRecordPinLaw", name := "reset", desc := "([I)V" } : Jvm.MethodName) method_3_code (1 : Nat) (Option.none : Option Jvm.ClassFile.FieldType)]
set_option maxRecDepth 65536 in
theorem codes_eq : words1.filter isCode = codes1 := rfl
theorem w_codes : ∀ c ∈ words1.filter isCode, c.before args0 about1 = true := by
  rw [codes_eq]
  intro c hc
  simp only [codes1, List.mem_cons, List.not_mem_nil, or_false] at hc
  rcases hc with rfl | rfl | rfl | rfl | rfl | rfl | rfl | rfl | rfl | rfl
  · exact w_c0
  · exact w_c1
  · exact w_c2
  · exact w_c3
  · exact w_c4
  · exact w_c5
  · exact w_c6
  · exact w_c7
  · exact w_c8
  · exact w_c9
set_option maxRecDepth 65536 in
theorem w_t1 : (words1.take 24).all (fun c => isCode c || c.before args0 about1) = true := by decide +kernel
set_option maxRecDepth 65536 in
theorem w_t2 : ((words1.drop 24).take 24).all (fun c => isCode c || c.before args0 about1) = true := by decide +kernel
set_option maxRecDepth 65536 in
theorem w_t3 : ((words1.drop 24).drop 24).all (fun c => isCode c || c.before args0 about1) = true := by decide +kernel
theorem w_tables : (allAtoms (Jvm.Cond.code x code maxLocals ret :: tables_1)).before args0 about1 = true := by
  rw [allAtoms_all]
  show words1.all (fun c => c.before args0 about1) = true
  refine all_split ?_ w_codes
  rw [← List.take_append_drop 24 words1, List.all_append, w_t1, ← List.take_append_drop 24 (words1.drop 24), List.all_append, w_t2, w_t3]
  rfl
set_option maxRecDepth 65536 in
theorem w_case : (Jvm.Cond.and given_1 narrow_1).before args0 about1 = true := by decide +kernel
theorem w_applies : (headSpec (Jvm.Cond.code x code maxLocals ret :: tables_1) room_1).applies x e0.platform about1 = true :=
  (Spec.applies_iff w_frames).mpr ⟨w_running, w_runnable, w_alone, w_named, w_hears, w_ripe, w_room, w_tables⟩
theorem atStart : AtStart classFile x code maxLocals ret World_1 tables_1 room_1 Calls_1 rest_1 Pre_1 launch0 p0 e0 about1 theMethod args0 below0 :=
  ⟨lists_1, trivial, launch0.admits_env _ _ _, launch0.least_env, fairChoices_fair.cas, fairChoices_fair.clock, w_frames, w_args, w_heap, w_applies, trivial, trivial, w_case⟩
end start1
theorem witness_1 : WitnessClaimed_1 := ⟨start1.p0, start1.e0, start1.about1, start1.theMethod, start1.args0, start1.below0, start1.atStart⟩
end Jvm.Pilot.@@N@@
