import JvmDerived
import JvmDerived.Pilot.@@N@@Statement
import JvmDerived.Pilot.@@N@@Code
set_option linter.unusedVariables false
set_option linter.unusedSimpArgs false
namespace Jvm.OwnW
open Sem ClassFile Op Lib Jvm.Stand Jvm.Free Jvm.LawKit Jvm.RoadKit
/-! A plain heap (objects made since the start, in order), values whose references count from the start's size; W: from here the method comes back, and Q holds of what it returns and leaves. -/
abbrev Key : Type := String × String × String
abbrev AObj : Type := (String × List (Key × Value)) ⊕ (FieldType × List Value)
abbrev AHeap : Type := List AObj
abbrev Meth : Type := MethodName × ByteArray × Nat × Option FieldType × Room
def up (n : Nat) : Value → Value
  | .ref k => .ref (n + k)
  | .retAddr a => .ref a
  | v => v
/-- a reference: null, an object of the plain heap, or one from elsewhere (written '.retAddr', which no method here makes) -/
def rfn : Value → Bool
  | .ref _ => true
  | .null => true
  | .retAddr _ => true
  | _ => false
def upS (n : Nat) : Slot → Slot
  | .val v => .val (up n v)
  | x => x
abbrev loc (n : Nat) (ls : List Slot) : Array Slot := (ls.map (upS n)).toArray
abbrev stk (n : Nat) (st : List Value) : List Value := st.map (up n)
def OR (Z : State) (n : Nat) (h : Heap) (a : Addr) : AObj → Prop
  | .inl x => Exa Z h a x.1 ∧ (∀ (i : Nat) (q : Key × Value), x.2[i]? = some q → Fld Z h a q.1.1 q.1.2.1 q.1.2.2 (up n q.2)) ∧ ∀ (i j : Nat) (q r : Key × Value), i ≠ j → x.2[i]? = some q → x.2[j]? = some r → RoadKit.slotOf Z q.1.1 q.1.2.1 q.1.2.2 ≠ RoadKit.slotOf Z r.1.1 r.1.2.1 r.1.2.2
  | .inr x => ∃ cl : Cell, Arr Z h a cl x.1 ∧ cl.slots = (x.2.map (up n)).toArray
/-- a cell of which nothing is said -/
def junk : AObj := .inr (.object "", [])
def isJ : AObj → Bool
  | .inl _ => false
  | .inr x => match x.1 with
    | .object c => c == ""
    | _ => false
def HR (Z : State) (n : Nat) (h : Heap) (H : AHeap) : Prop := h.size = n + H.length ∧ ∀ k o, H[k]? = some o → isJ o = false → OR Z n h (n + k) o
def Ctx (Z : State) (M : Meth) (p : Program) (s : State) (m : MethodId) (meth : Method) (c : Code) : Prop :=
  p.tables.exec = Jvm.exec ∧ Z.Warmed39 s.vm ∧ s.vm.findClass M.1.cls = some m.cls ∧ c.code = M.2.1 ∧ c.maxLocals = M.2.2.1 ∧ meth.sig.returnType = M.2.2.2.1 ∧ meth.locks = false ∧ meth.name = M.1.name
/-- the end's frame: the plain one, or (a String's constant may have been resolved) the wide one -/
def EndR (b : Bool) (s : State) (o : Outcome) (t : State) (L : List Loc) (k n : Nat) : Prop := match b with
  | false => FrameEnd s o t L k n
  | true => (∃ v : Option Value, o = Outcome.returned v) ∧ s.Warmed39 t.vm ∧ s.Booked t.vm t.heap.size ∧ s.sameButNew ({ t with vm := s.vm } : State) L k n
theorem EndR.of {b : Bool} {s : State} {o : Outcome} {t : State} {L : List Loc} {k n : Nat} (h : FrameEnd s o t L k n) : EndR b s o t L k n := by
  cases b
  · exact h
  · exact ⟨h.1, (h.2.1.since t.heap.size).1, (h.2.1.since t.heap.size).2, h.2.2⟩
def FinR (b : Bool) (Z : State) (n : Nat) (M : Meth) (Q : Option Value → AHeap → Prop) (p : Program) (e : Env) (below : List Frame) (s S : State) : Prop :=
  ∃ s₂ v L H', Steps p.tables e below S s₂ ∧ s₂.status = .running ∧ Ended s₂ below (.returned (v.map (up n))) ∧ Q v H' ∧ HR Z n s₂.heap H' ∧ Fr n L ∧ EndR b s (.returned (v.map (up n))) s₂ L M.2.2.2.2.cells M.2.2.2.2.slots
def WB (b : Bool) (l : Launch) (Z : State) (n : Nat) (M : Meth) (pc : Nat) (ls : List Slot) (st : List Value) (H : AHeap) (ce sl : Nat) (Q : Option Value → AHeap → Prop) : Prop :=
  ∀ (p : Program) (e : Env) (s : State) (m : MethodId) (args : Array Value) (below : List Frame) (meth : Method) (c : Code), Ctx Z M p s m meth c → ∀ (T : State) (locs : List Loc),
    Stand p l e M.2.2.2.2 s m args below meth c T locs ce sl → HR Z n T.heap H → Fr n locs → FinR b Z n M Q p e below s (T.setTop (mkF m pc (loc n ls) (stk n st)))
abbrev W (l : Launch) (Z : State) (n : Nat) (M : Meth) (pc : Nat) (ls : List Slot) (st : List Value) (H : AHeap) (ce sl : Nat) (Q : Option Value → AHeap → Prop) : Prop := WB false l Z n M pc ls st H ce sl Q
/-- the instruction at pc, its length, the pc behind -/
def D (M : Meth) (pc : Nat) (i : Instr) (len pc' : Nat) : Prop := decode M.2.1 pc = .ok (i, len) ∧ pc' = pc + len
/-- a branch: the pc behind, the target -/
def DB (M : Meth) (pc : Nat) (i : Instr) (o : Int) (pc' t : Nat) : Prop := decode M.2.1 pc = .ok (i, 3) ∧ pc' = pc + 3 ∧ 0 ≤ (pc : Int) + o ∧ ((pc : Int) + o).toNat = t

section Facts
variable {Z : State} {n : Nat} {h h' : Heap} {a b : Addr} {x : AObj} {H : AHeap} {sl k : Nat} {v : Value}
theorem up_cat (n : Nat) (v : Value) : (up n v).category = v.category := by cases v <;> rfl
theorem up_rfn (n : Nat) {v : Value} (h : rfn v = true) : (up n v).isRef = true := by cases v <;> first | rfl | (simp [rfn] at h)
theorem up_isRef (n : Nat) {v : Value} (h : v.isRef = true) : (up n v).isRef = true := by cases v <;> first | rfl | (simp [Value.isRef] at h)
theorem rfn_cat {v : Value} (h : rfn v = true) : v.category = 1 := by cases v <;> first | rfl | (simp [rfn] at h)
theorem up_default (n : Nat) (ty : FieldType) : up n (defaultValue ty) = defaultValue ty := by cases ty <;> rfl
theorem up_inj {n : Nat} {v w : Value} (hv : v.isRef = true) (hw : w.isRef = true) (e : up n v = up n w) : v = w := by
  cases v <;> cases w <;> simp_all [up, Value.isRef]
theorem OR.other (W : Wr h h' a sl v) (hne : b ≠ a) : ∀ {x : AObj}, OR Z n h b x → OR Z n h' b x
  | .inl x, o => ⟨o.1.wr W, fun i q hq => (o.2.1 i q hq).other W (Or.inl hne), o.2.2⟩
  | .inr x, ⟨cl, A, e⟩ => ⟨cl, A.other W hne, e⟩
theorem OR.ext (E : Ext h h') : ∀ {x : AObj}, OR Z n h b x → OR Z n h' b x
  | .inl x, o => ⟨o.1.ext E, fun i q hq => (o.2.1 i q hq).ext E, o.2.2⟩
  | .inr x, ⟨cl, A, e⟩ => ⟨cl, A.ext E, e⟩
theorem HR.put (hH : HR Z n h H) (W : Wr h h' (n + k) sl v) (hx : OR Z n h' (n + k) x) : HR Z n h' (H.set k x) := by
  refine ⟨by rw [W.size, List.length_set]; exact hH.1, fun j o hj hJ => ?_⟩
  rw [List.getElem?_set] at hj
  split at hj
  · rename_i e
    subst e
    split at hj
    · cases hj; exact hx
    · cases hj
  · rename_i e
    exact (hH.2 j o hj hJ).other W (fun q => e (Nat.add_left_cancel q).symm)
theorem HR.push (hH : HR Z n h H) (E : Ext h h') (hs : h'.size = h.size + 1) (hx : OR Z n h' h.size x) : HR Z n h' (H ++ [x]) := by
  refine ⟨by rw [hs, hH.1, List.length_append]; rfl, fun j o hj hJ => ?_⟩
  rw [List.getElem?_append] at hj
  split at hj
  · exact (hH.2 j o hj hJ).ext E
  · rename_i e
    have hj' := hj
    cases hq : j - H.length with
    | zero =>
      have hge : H.length ≤ j := Nat.le_of_not_lt e
      have hle : j ≤ H.length := Nat.sub_eq_zero_iff_le.mp hq
      have this : n + j = h.size := by rw [hH.1, Nat.le_antisymm hle hge]
      rw [hq] at hj
      cases hj
      rw [this]; exact hx
    | succ q => rw [hq] at hj; cases hj
theorem OR.field {C : String} {fs : List (Key × Value)} {j : Nat} {O nm d : String} {old w : Value} (o : OR Z n h a (.inl (C, fs))) (hj : fs[j]? = some ((O, nm, d), old)) (W : Wr h h' a (RoadKit.slotOf Z O nm d) (up n w)) : OR Z n h' a (.inl (C, fs.set j ((O, nm, d), w))) := by
  have key : ∀ i q, (fs.set j ((O, nm, d), w))[i]? = some q → ∃ q', fs[i]? = some q' ∧ q'.1 = q.1 ∧ (i = j → q = ((O, nm, d), w)) ∧ (i ≠ j → q' = q) := by
    intro i q hq
    rw [List.getElem?_set] at hq
    split at hq
    · rename_i e
      subst e
      split at hq
      · cases hq; exact ⟨_, hj, rfl, fun _ => rfl, fun q => absurd rfl q⟩
      · cases hq
    · rename_i e
      exact ⟨q, hq, rfl, fun q => absurd q.symm e, fun _ => rfl⟩
  obtain ⟨o1, o2, o3⟩ := o
  refine ⟨o1.wr W, fun i q hq => ?_, fun i i' q r hne hq hr => ?_⟩
  · obtain ⟨q', g1, g2, g3, g4⟩ := key i q hq
    by_cases e : i = j
    · rw [g3 e]
      subst e
      cases hj.symm.trans g1
      have o4 : Fld Z h a O nm d (up n old) := o2 i _ hj
      exact o4.same W
    · obtain rfl := g4 e
      have hne : RoadKit.slotOf Z q'.1.1 q'.1.2.1 q'.1.2.2 ≠ RoadKit.slotOf Z O nm d := o3 i j q' ((O, nm, d), old) e g1 hj
      exact (o2 i q' g1).other W (Or.inr hne)
  · obtain ⟨q', g1, g2, -⟩ := key i q hq
    obtain ⟨r', k1, k2, -⟩ := key i' r hr
    have := o3 i i' q' r' hne g1 k1
    rw [g2, k2] at this; exact this
theorem OR.elem {ty : FieldType} {vs : List Value} {i : Nat} {w : Value} (o : OR Z n h a (.inr (ty, vs))) (W : Wr h h' a i (up n w)) : OR Z n h' a (.inr (ty, vs.set i w)) := by
  obtain ⟨cl, A, e⟩ := o
  refine ⟨_, A.same W, ?_⟩
  show cl.slots.setIfInBounds i (up n w) = _
  rw [e, List.setIfInBounds_toArray, List.map_set]
end Facts

/-- a class as the sheet lays it: its words, its fields at their first values -/
def OkC (a0 : Array Value) (Z : State) (C : String) (k : Nat) (fs : List (Key × Value)) : Prop :=
  (Cond.instantiable C k).before a0 Z = true ∧ (Cond.initialized C).before a0 Z = true ∧ (∀ q ∈ fs, ∃ ty, Laid Z a0 C q.1.1 q.1.2.1 q.1.2.2 ∧ parseFieldDescriptor q.1.2.2 = some ty ∧ q.2 = defaultValue ty) ∧ fs.Pairwise (fun q r => q.1.2.1 ≠ r.1.2.1)
theorem OkC.slots {a0 : Array Value} {Z : State} {C : String} {k : Nat} {fs : List (Key × Value)} (K : OkC a0 Z C k fs) : ∀ (i j : Nat) (q r : Key × Value), i ≠ j → fs[i]? = some q → fs[j]? = some r → RoadKit.slotOf Z q.1.1 q.1.2.1 q.1.2.2 ≠ RoadKit.slotOf Z r.1.1 r.1.2.1 r.1.2.2 := by
  intro i j q r hne hq hr
  obtain ⟨t, L, p1, -⟩ := K.2.2.1 q (List.mem_of_getElem? hq)
  obtain ⟨t', L', p2, -⟩ := K.2.2.1 r (List.mem_of_getElem? hr)
  obtain ⟨hi, ei⟩ := List.getElem?_eq_some_iff.mp hq
  obtain ⟨hj, ej⟩ := List.getElem?_eq_some_iff.mp hr
  have P := List.pairwise_iff_getElem.mp K.2.2.2
  refine slot_ne L L' ?_ p1 p2
  rcases Nat.lt_or_gt_of_ne hne with g | g
  · have := P i j hi hj g; rw [ei, ej] at this; exact this
  · have := P j i hj hi g; rw [ei, ej] at this; exact Ne.symm this

section Locals
variable {n : Nat} {ls : List Slot} {i : Nat} {x : Slot} {v : Value}
theorem loc_get (hl : ls[i]? = some x) : (loc n ls)[i]? = some (upS n x) := by
  simp [loc, hl]
def one (ls : List Slot) (i : Nat) : Bool := match ls[i]? with
  | some .unset => true
  | some (.val w) => w.category == 1
  | _ => false
/-- a long may be stored at i: the two places are there, and no other long is cut in two -/
def two (ls : List Slot) (i : Nat) : Bool := match ls[i]?, ls[i + 1]? with
  | some .unset, some .unset => true
  | some .unset, some (.val w) => w.category == 1
  | some (.val u), some .unset => u.category == 1
  | some (.val u), some (.val w) => u.category == 1 && w.category == 1
  | some (.val u), some .second => u.category == 2
  | _, _ => false
theorem loc_set (n : Nat) (ls : List Slot) (i : Nat) (x : Slot) : (loc n ls).setIfInBounds i (upS n x) = loc n (ls.set i x) := by
  simp [loc, List.map_set]
theorem store_1 (ho : one ls i = true) (hv : v.category = 1) : storeLocals (loc n ls) i (up n v) = some (loc n (ls.set i (.val v))) := by
  have : ∃ o, ls[i]? = some o ∧ (o = .unset ∨ ∃ w, o = .val w ∧ w.category = 1) := by
    unfold one at ho
    split at ho
    · rename_i h; exact ⟨_, h, Or.inl rfl⟩
    · rename_i w h; exact ⟨_, h, Or.inr ⟨w, rfl, by simpa using ho⟩⟩
    · cases ho
  obtain ⟨o, h1, h2⟩ := this
  rw [XS.store1 (loc_get (n := n) h1) ?_ ((up_cat n v).trans hv)]
  · exact congrArg some (loc_set n ls i (.val v))
  · rcases h2 with rfl | ⟨w, rfl, hw⟩
    · exact Or.inl rfl
    · exact Or.inr ⟨up n w, rfl, (up_cat n w).trans hw⟩
theorem setAt_eq {l : Array Slot} {i : Nat} (x : Slot) (h : i < l.size) : setAt l i x = some (l.setIfInBounds i x) := by simp [setAt, h]
theorem store_2 {y : Int64} (ho : two ls i = true) : storeLocals (loc n ls) i (.long y) = some (loc n ((ls.set i (.val (.long y))).set (i + 1) .second)) := by
  have e2 : (loc n ls).setIfInBounds i (.val (.long y)) = loc n (ls.set i (.val (.long y))) := loc_set n ls i (.val (.long y))
  have e3 : (loc n (ls.set i (.val (.long y)))).setIfInBounds (i + 1) .second = loc n ((ls.set i (.val (.long y))).set (i + 1) .second) := loc_set n _ (i + 1) .second
  have key : ∀ a b, ls[i]? = some a → ls[i + 1]? = some b → i < (loc n ls).size ∧ i + 1 < (loc n ls).size ∧ (loc n ls)[i]? = some (upS n a) ∧ (loc n ls)[i + 1]? = some (upS n b) := by
    intro a b h1 h2
    have g1 := (List.getElem?_eq_some_iff.mp h1).1
    have g2 := (List.getElem?_eq_some_iff.mp h2).1
    exact ⟨by simpa [loc] using g1, by simpa [loc] using g2, loc_get h1, loc_get h2⟩
  unfold two at ho
  split at ho
  · rename_i h1 h2
    obtain ⟨s1, s2, g1, g2⟩ := key _ _ h1 h2
    have g3 : ((loc n ls).setIfInBounds i (.val (.long y)))[i + 1]? = some .unset := by rw [Array.getElem?_setIfInBounds_ne (by omega)]; exact g2
    simp only [storeLocals, storeSelf, g1, upS, setAt_eq _ s1, Option.bind_eq_bind, Option.bind_some, Value.category, if_true, g3]
    rw [setAt_eq _ (by simpa using s2), e2, e3]
  · rename_i w h1 h2
    obtain ⟨s1, s2, g1, g2⟩ := key _ _ h1 h2
    have g3 : ((loc n ls).setIfInBounds i (.val (.long y)))[i + 1]? = some (.val (up n w)) := by rw [Array.getElem?_setIfInBounds_ne (by omega)]; exact g2
    have hw : (up n w).category = 1 := (up_cat n w).trans (by simpa using ho)
    have hw2 : ¬ (up n w).category = 2 := by rw [hw]; decide
    simp only [storeLocals, storeSelf, g1, upS, setAt_eq _ s1, Option.bind_eq_bind, Option.bind_some, show (Value.long y).category = 2 from rfl, if_true, g3, if_neg hw2]
    rw [setAt_eq _ (by simpa using s2), e2, e3]
  · rename_i u h1 h2
    obtain ⟨s1, s2, g1, g2⟩ := key _ _ h1 h2
    have g3 : ((loc n ls).setIfInBounds i (.val (.long y)))[i + 1]? = some .unset := by rw [Array.getElem?_setIfInBounds_ne (by omega)]; exact g2
    have hu : (up n u).category = 1 := (up_cat n u).trans (by simpa using ho)
    simp only [storeLocals, storeSelf, g1, upS, setAt_eq _ s1, Option.bind_eq_bind, Option.bind_some, hu, show ((1 : Nat) = 2) = False from by simp, if_false, g3]
    simp only [Value.category, if_true]
    rw [setAt_eq _ (by simpa using s2), e2, e3]
  · rename_i u w h1 h2
    obtain ⟨s1, s2, g1, g2⟩ := key _ _ h1 h2
    simp only [Bool.and_eq_true, beq_iff_eq] at ho
    have g3 : ((loc n ls).setIfInBounds i (.val (.long y)))[i + 1]? = some (.val (up n w)) := by rw [Array.getElem?_setIfInBounds_ne (by omega)]; exact g2
    have hu : (up n u).category = 1 := (up_cat n u).trans ho.1
    have hw : (up n w).category = 1 := (up_cat n w).trans ho.2
    simp only [storeLocals, storeSelf, g1, upS, setAt_eq _ s1, Option.bind_eq_bind, Option.bind_some, hu, hw, show ((1 : Nat) = 2) = False from by simp, if_false, g3]
    simp only [Value.category, if_true]
    rw [setAt_eq _ (by simpa using s2), e2, e3]
  · rename_i u h1 h2
    obtain ⟨s1, s2, g1, g2⟩ := key _ _ h1 h2
    have hu : (up n u).category = 2 := (up_cat n u).trans (by simpa using ho)
    have s3 : i < ((loc n ls).setIfInBounds (i + 1) .unset).size := by simpa using s1
    have g3 : (((loc n ls).setIfInBounds (i + 1) .unset).setIfInBounds i (.val (.long y)))[i + 1]? = some .unset := by rw [Array.getElem?_setIfInBounds_ne (by omega)]; simp [show i + 1 < ls.length by simpa [loc] using s2]
    simp only [storeLocals, storeSelf, g1, upS, setAt_eq _ s2, setAt_eq _ s3, Option.bind_eq_bind, Option.bind_some, hu, if_true, g3]
    simp only [Value.category, if_true]
    rw [setAt_eq _ (by simpa using s2)]
    rw [← e3, ← e2]
    congr 1
    apply Array.ext_getElem?
    intro j
    simp only [Array.getElem?_setIfInBounds, Array.size_setIfInBounds]
    by_cases q : i + 1 = j
    · simp [q]
    · by_cases q2 : i = j <;> simp [q, q2]
  · cases ho
end Locals

section Rules
variable {b : Bool} {l : Launch} {Z : State} {n : Nat} {M : Meth} {pc pc' : Nat} {ls ls' : List Slot} {st st' : List Value} {H H' : AHeap} {ce sl ce' sl' : Nat} {Q : Option Value → AHeap → Prop} {a0 : Array Value}
theorem W.step (go : ∀ (p : Program) (e : Env) (s : State) (m : MethodId) (args : Array Value) (below : List Frame) (meth : Method) (c : Code), Ctx Z M p s m meth c → ∀ (T : State) (locs : List Loc), Stand p l e M.2.2.2.2 s m args below meth c T locs ce sl → HR Z n T.heap H → Fr n locs →
      ∃ T' locs', Stand p l e M.2.2.2.2 s m args below meth c T' locs' ce' sl' ∧ HR Z n T'.heap H' ∧ Fr n locs' ∧ ∀ target, Steps p.tables e below (T'.setTop (mkF m pc' (loc n ls') (stk n st'))) target → Steps p.tables e below (T.setTop (mkF m pc (loc n ls) (stk n st))) target)
    (k : WB b l Z n M pc' ls' st' H' ce' sl' Q) : WB b l Z n M pc ls st H ce sl Q := fun p e s m args below meth c C T locs X hH hF => by
  obtain ⟨T', locs', X', hH', hF', stp⟩ := go p e s m args below meth c C T locs X hH hF
  obtain ⟨s₂, v, L, H'', h1, r⟩ := k p e s m args below meth c C T' locs' X' hH' hF'
  exact ⟨s₂, v, L, H'', stp _ h1, r⟩
theorem W.pure (go : ∀ (p : Program) (e : Env) (s : State) (m : MethodId) (args : Array Value) (below : List Frame) (meth : Method) (c : Code), Ctx Z M p s m meth c → ∀ (T : State) (locs : List Loc), Stand p l e M.2.2.2.2 s m args below meth c T locs ce sl →
      ∀ target, Steps p.tables e below (T.setTop (mkF m pc' (loc n ls') (stk n st'))) target → Steps p.tables e below (T.setTop (mkF m pc (loc n ls) (stk n st))) target)
    (k : WB b l Z n M pc' ls' st' H ce sl Q) : WB b l Z n M pc ls st H ce sl Q :=
  W.step (fun p e s m args below meth c C T locs X hH hF => ⟨T, locs, X, hH, hF, go p e s m args below meth c C T locs X⟩) k
theorem W.more (h1 : ce ≤ ce') (h2 : sl ≤ sl') (k : WB b l Z n M pc ls st H ce' sl' Q) : WB b l Z n M pc ls st H ce sl Q :=
  W.step (fun p e s m args below meth c C T locs X hH hF => ⟨T, locs, X.more h1 h2, hH, hF, fun _ h => h⟩) k
theorem W.mono {Q' : Option Value → AHeap → Prop} (k : WB b l Z n M pc ls st H ce sl Q') (hq : ∀ v H', Q' v H' → Q v H') : WB b l Z n M pc ls st H ce sl Q := fun p e s m args below meth c C T locs X hH hF => by
  obtain ⟨s₂, v, L, H'', h1, h2, h3, h4, r⟩ := k p e s m args below meth c C T locs X hH hF
  exact ⟨s₂, v, L, H'', h1, h2, h3, hq _ _ h4, r⟩
theorem W.iadd {x y : Int32} (hd : D M pc .iadd 1 pc') (k : WB b l Z n M pc' ls (.int (x + y) :: st) H ce sl Q) : WB b l Z n M pc ls (.int y :: .int x :: st) H ce sl Q := by
  obtain ⟨hd, rfl⟩ := hd
  exact W.pure (fun p e s m args below meth c C T locs X target h => XS.iadd X.here C.1 rfl (hb C.2.2.2.1 hd) rfl h) k
theorem W.isub {x y : Int32} (hd : D M pc .isub 1 pc') (k : WB b l Z n M pc' ls (.int (x - y) :: st) H ce sl Q) : WB b l Z n M pc ls (.int y :: .int x :: st) H ce sl Q := by
  obtain ⟨hd, rfl⟩ := hd
  exact W.pure (fun p e s m args below meth c C T locs X target h => XS.isub X.here C.1 rfl (hb C.2.2.2.1 hd) rfl h) k
theorem W.imul {x y : Int32} (hd : D M pc .imul 1 pc') (k : WB b l Z n M pc' ls (.int (x * y) :: st) H ce sl Q) : WB b l Z n M pc ls (.int y :: .int x :: st) H ce sl Q := by
  obtain ⟨hd, rfl⟩ := hd
  exact W.pure (fun p e s m args below meth c C T locs X target h => XS.imul X.here C.1 rfl (hb C.2.2.2.1 hd) rfl h) k
theorem W.iand {x y : Int32} (hd : D M pc .iand 1 pc') (k : WB b l Z n M pc' ls (.int (x &&& y) :: st) H ce sl Q) : WB b l Z n M pc ls (.int y :: .int x :: st) H ce sl Q := by
  obtain ⟨hd, rfl⟩ := hd
  exact W.pure (fun p e s m args below meth c C T locs X target h => XS.iand X.here C.1 rfl (hb C.2.2.2.1 hd) rfl h) k
theorem W.ior {x y : Int32} (hd : D M pc .ior 1 pc') (k : WB b l Z n M pc' ls (.int (x ||| y) :: st) H ce sl Q) : WB b l Z n M pc ls (.int y :: .int x :: st) H ce sl Q := by
  obtain ⟨hd, rfl⟩ := hd
  exact W.pure (fun p e s m args below meth c C T locs X target h => XT.ior X.here C.1 rfl (hb C.2.2.2.1 hd) rfl h) k
theorem W.ixor {x y : Int32} (hd : D M pc .ixor 1 pc') (k : WB b l Z n M pc' ls (.int (x ^^^ y) :: st) H ce sl Q) : WB b l Z n M pc ls (.int y :: .int x :: st) H ce sl Q := by
  obtain ⟨hd, rfl⟩ := hd
  exact W.pure (fun p e s m args below meth c C T locs X target h => XT.ixor X.here C.1 rfl (hb C.2.2.2.1 hd) rfl h) k
theorem W.ishl {x y : Int32} (hd : D M pc .ishl 1 pc') (k : WB b l Z n M pc' ls (.int (x <<< (y &&& 31)) :: st) H ce sl Q) : WB b l Z n M pc ls (.int y :: .int x :: st) H ce sl Q := by
  obtain ⟨hd, rfl⟩ := hd
  exact W.pure (fun p e s m args below meth c C T locs X target h => XT.ishl X.here C.1 rfl (hb C.2.2.2.1 hd) rfl h) k
theorem W.ishr {x y : Int32} (hd : D M pc .ishr 1 pc') (k : WB b l Z n M pc' ls (.int (x >>> (y &&& 31)) :: st) H ce sl Q) : WB b l Z n M pc ls (.int y :: .int x :: st) H ce sl Q := by
  obtain ⟨hd, rfl⟩ := hd
  exact W.pure (fun p e s m args below meth c C T locs X target h => XT.ishr X.here C.1 rfl (hb C.2.2.2.1 hd) rfl h) k
theorem W.iushr {x y : Int32} (hd : D M pc .iushr 1 pc') (k : WB b l Z n M pc' ls (.int (XT.ushr x y) :: st) H ce sl Q) : WB b l Z n M pc ls (.int y :: .int x :: st) H ce sl Q := by
  obtain ⟨hd, rfl⟩ := hd
  exact W.pure (fun p e s m args below meth c C T locs X target h => XT.iushr X.here C.1 rfl (hb C.2.2.2.1 hd) rfl h) k
theorem W.ladd {x y : Int64} (hd : D M pc .ladd 1 pc') (k : WB b l Z n M pc' ls (.long (x + y) :: st) H ce sl Q) : WB b l Z n M pc ls (.long y :: .long x :: st) H ce sl Q := by
  obtain ⟨hd, rfl⟩ := hd
  exact W.pure (fun p e s m args below meth c C T locs X target h => XT.ladd X.here C.1 rfl (hb C.2.2.2.1 hd) rfl h) k
theorem W.lsub {x y : Int64} (hd : D M pc .lsub 1 pc') (k : WB b l Z n M pc' ls (.long (x - y) :: st) H ce sl Q) : WB b l Z n M pc ls (.long y :: .long x :: st) H ce sl Q := by
  obtain ⟨hd, rfl⟩ := hd
  exact W.pure (fun p e s m args below meth c C T locs X target h => XT.lsub X.here C.1 rfl (hb C.2.2.2.1 hd) rfl h) k
theorem W.lmul {x y : Int64} (hd : D M pc .lmul 1 pc') (k : WB b l Z n M pc' ls (.long (x * y) :: st) H ce sl Q) : WB b l Z n M pc ls (.long y :: .long x :: st) H ce sl Q := by
  obtain ⟨hd, rfl⟩ := hd
  exact W.pure (fun p e s m args below meth c C T locs X target h => XT.lmul X.here C.1 rfl (hb C.2.2.2.1 hd) rfl h) k
theorem W.land {x y : Int64} (hd : D M pc .land 1 pc') (k : WB b l Z n M pc' ls (.long (x &&& y) :: st) H ce sl Q) : WB b l Z n M pc ls (.long y :: .long x :: st) H ce sl Q := by
  obtain ⟨hd, rfl⟩ := hd
  exact W.pure (fun p e s m args below meth c C T locs X target h => XT.land X.here C.1 rfl (hb C.2.2.2.1 hd) rfl h) k
theorem W.lor {x y : Int64} (hd : D M pc .lor 1 pc') (k : WB b l Z n M pc' ls (.long (x ||| y) :: st) H ce sl Q) : WB b l Z n M pc ls (.long y :: .long x :: st) H ce sl Q := by
  obtain ⟨hd, rfl⟩ := hd
  exact W.pure (fun p e s m args below meth c C T locs X target h => XT.lor X.here C.1 rfl (hb C.2.2.2.1 hd) rfl h) k
theorem W.lxor {x y : Int64} (hd : D M pc .lxor 1 pc') (k : WB b l Z n M pc' ls (.long (x ^^^ y) :: st) H ce sl Q) : WB b l Z n M pc ls (.long y :: .long x :: st) H ce sl Q := by
  obtain ⟨hd, rfl⟩ := hd
  exact W.pure (fun p e s m args below meth c C T locs X target h => XT.lxor X.here C.1 rfl (hb C.2.2.2.1 hd) rfl h) k
theorem W.lshl {x : Int64} {y : Int32} (hd : D M pc .lshl 1 pc') (k : WB b l Z n M pc' ls (.long (x <<< (y &&& 0x3f).toInt64) :: st) H ce sl Q) : WB b l Z n M pc ls (.int y :: .long x :: st) H ce sl Q := by
  obtain ⟨hd, rfl⟩ := hd
  exact W.pure (fun p e s m args below meth c C T locs X target h => XS.lshl X.here C.1 rfl (hb C.2.2.2.1 hd) rfl h) k
theorem W.lshr {x : Int64} {y : Int32} (hd : D M pc .lshr 1 pc') (k : WB b l Z n M pc' ls (.long (x >>> (y &&& 0x3f).toInt64) :: st) H ce sl Q) : WB b l Z n M pc ls (.int y :: .long x :: st) H ce sl Q := by
  obtain ⟨hd, rfl⟩ := hd
  exact W.pure (fun p e s m args below meth c C T locs X target h => XS.lshr X.here C.1 rfl (hb C.2.2.2.1 hd) rfl h) k
theorem W.lushr {x : Int64} {y : Int32} (hd : D M pc .lushr 1 pc') (k : WB b l Z n M pc' ls (.long (XT.ushrL x y) :: st) H ce sl Q) : WB b l Z n M pc ls (.int y :: .long x :: st) H ce sl Q := by
  obtain ⟨hd, rfl⟩ := hd
  exact W.pure (fun p e s m args below meth c C T locs X target h => XT.lushr X.here C.1 rfl (hb C.2.2.2.1 hd) rfl h) k
theorem W.idiv {x y : Int32} (hd : D M pc .idiv 1 pc') (hy : y ≠ 0) (k : WB b l Z n M pc' ls (.int (x / y) :: st) H ce sl Q) : WB b l Z n M pc ls (.int y :: .int x :: st) H ce sl Q := by
  obtain ⟨hd, rfl⟩ := hd
  exact W.pure (fun p e s m args below meth c C T locs X target h => XS.idiv X.here C.1 rfl (hb C.2.2.2.1 hd) rfl hy h) k
theorem W.irem {x y : Int32} (hd : D M pc .irem 1 pc') (hy : y ≠ 0) (k : WB b l Z n M pc' ls (.int (x % y) :: st) H ce sl Q) : WB b l Z n M pc ls (.int y :: .int x :: st) H ce sl Q := by
  obtain ⟨hd, rfl⟩ := hd
  exact W.pure (fun p e s m args below meth c C T locs X target h => iremM X C.1 rfl (hb C.2.2.2.1 hd) rfl hy h) k
theorem W.ldiv {x y : Int64} (hd : D M pc .ldiv 1 pc') (hy : y ≠ 0) (k : WB b l Z n M pc' ls (.long (x / y) :: st) H ce sl Q) : WB b l Z n M pc ls (.long y :: .long x :: st) H ce sl Q := by
  obtain ⟨hd, rfl⟩ := hd
  exact W.pure (fun p e s m args below meth c C T locs X target h => XT.ldiv X.here C.1 rfl (hb C.2.2.2.1 hd) rfl hy h) k
theorem W.lrem {x y : Int64} (hd : D M pc .lrem 1 pc') (hy : y ≠ 0) (k : WB b l Z n M pc' ls (.long (x % y) :: st) H ce sl Q) : WB b l Z n M pc ls (.long y :: .long x :: st) H ce sl Q := by
  obtain ⟨hd, rfl⟩ := hd
  exact W.pure (fun p e s m args below meth c C T locs X target h => XT.lrem X.here C.1 rfl (hb C.2.2.2.1 hd) rfl hy (by rw [lrem_mod]; exact h)) k
theorem W.ineg {x : Int32} (hd : D M pc .ineg 1 pc') (k : WB b l Z n M pc' ls (.int (-x) :: st) H ce sl Q) : WB b l Z n M pc ls (.int x :: st) H ce sl Q := by
  obtain ⟨hd, rfl⟩ := hd
  exact W.pure (fun p e s m args below meth c C T locs X target h => XS.ineg X.here C.1 rfl (hb C.2.2.2.1 hd) rfl h) k
theorem W.lneg {x : Int64} (hd : D M pc .lneg 1 pc') (k : WB b l Z n M pc' ls (.long (-x) :: st) H ce sl Q) : WB b l Z n M pc ls (.long x :: st) H ce sl Q := by
  obtain ⟨hd, rfl⟩ := hd
  exact W.pure (fun p e s m args below meth c C T locs X target h => XT.lneg X.here C.1 rfl (hb C.2.2.2.1 hd) rfl h) k
theorem W.i2l {x : Int32} (hd : D M pc .i2l 1 pc') (k : WB b l Z n M pc' ls (.long (x.toInt64) :: st) H ce sl Q) : WB b l Z n M pc ls (.int x :: st) H ce sl Q := by
  obtain ⟨hd, rfl⟩ := hd
  exact W.pure (fun p e s m args below meth c C T locs X target h => XT.i2l X.here C.1 rfl (hb C.2.2.2.1 hd) rfl h) k
theorem W.l2i {x : Int64} (hd : D M pc .l2i 1 pc') (k : WB b l Z n M pc' ls (.int (x.toInt32) :: st) H ce sl Q) : WB b l Z n M pc ls (.long x :: st) H ce sl Q := by
  obtain ⟨hd, rfl⟩ := hd
  exact W.pure (fun p e s m args below meth c C T locs X target h => XT.l2i X.here C.1 rfl (hb C.2.2.2.1 hd) rfl h) k
theorem W.i2b {x : Int32} (hd : D M pc .i2b 1 pc') (k : WB b l Z n M pc' ls (.int (x.toInt8.toInt32) :: st) H ce sl Q) : WB b l Z n M pc ls (.int x :: st) H ce sl Q := by
  obtain ⟨hd, rfl⟩ := hd
  exact W.pure (fun p e s m args below meth c C T locs X target h => XT.i2b X.here C.1 rfl (hb C.2.2.2.1 hd) rfl h) k
theorem W.i2s {x : Int32} (hd : D M pc .i2s 1 pc') (k : WB b l Z n M pc' ls (.int (x.toInt16.toInt32) :: st) H ce sl Q) : WB b l Z n M pc ls (.int x :: st) H ce sl Q := by
  obtain ⟨hd, rfl⟩ := hd
  exact W.pure (fun p e s m args below meth c C T locs X target h => XT.i2s X.here C.1 rfl (hb C.2.2.2.1 hd) rfl h) k
theorem W.lcmp {x y : Int64} (hd : D M pc .lcmp 1 pc') (k : WB b l Z n M pc' ls (.int (XT.cmpL x y) :: st) H ce sl Q) : WB b l Z n M pc ls (.long y :: .long x :: st) H ce sl Q := by
  obtain ⟨hd, rfl⟩ := hd
  exact W.pure (fun p e s m args below meth c C T locs X target h => XT.lcmp X.here C.1 rfl (hb C.2.2.2.1 hd) rfl h) k
theorem W.iconst {i : Int} (v : Int32) (hd : D M pc (.iconst i) 1 pc') (hv : Int32.ofInt i = v) (k : WB b l Z n M pc' ls (.int v :: st) H ce sl Q) : WB b l Z n M pc ls st H ce sl Q := by
  obtain ⟨hd, rfl⟩ := hd
  exact W.pure (fun p e s m args below meth c C T locs X target h => XT.iconstV X.here C.1 rfl v (hb C.2.2.2.1 hd) hv h) k
theorem W.bipush {i : Int} (v : Int32) (hd : D M pc (.bipush i) 2 pc') (hv : (Int8.ofInt i).toInt32 = v) (k : WB b l Z n M pc' ls (.int v :: st) H ce sl Q) : WB b l Z n M pc ls st H ce sl Q := by
  obtain ⟨hd, rfl⟩ := hd
  exact W.pure (fun p e s m args below meth c C T locs X target h => XT.bipushV X.here C.1 rfl v (hb C.2.2.2.1 hd) hv h) k
theorem W.sipush {i : Int} (v : Int32) (hd : D M pc (.sipush i) 3 pc') (hv : (Int16.ofInt i).toInt32 = v) (k : WB b l Z n M pc' ls (.int v :: st) H ce sl Q) : WB b l Z n M pc ls st H ce sl Q := by
  obtain ⟨hd, rfl⟩ := hd
  exact W.pure (fun p e s m args below meth c C T locs X target h => XT.sipushV X.here C.1 rfl v (hb C.2.2.2.1 hd) hv h) k
theorem W.lconst {i : Fin 2} (v : Int64) (hd : D M pc (.lconst i) 1 pc') (hv : Int64.ofNat i = v) (k : WB b l Z n M pc' ls (.long v :: st) H ce sl Q) : WB b l Z n M pc ls st H ce sl Q := by
  obtain ⟨hd, rfl⟩ := hd
  exact W.pure (fun p e s m args below meth c C T locs X target h => XT.lconstV X.here C.1 rfl v (hb C.2.2.2.1 hd) hv h) k
theorem W.aconst  (hd : D M pc .aconst_null 1 pc') (k : WB b l Z n M pc' ls (.null :: st) H ce sl Q) : WB b l Z n M pc ls st H ce sl Q := by
  obtain ⟨hd, rfl⟩ := hd
  exact W.pure (fun p e s m args below meth c C T locs X target h => XS.aconstNull X.here C.1 rfl (hb C.2.2.2.1 hd) h) k
theorem W.ldc {i : Nat} {v : Int32} (hd : D M pc (.ldc i) 2 pc') (w : (Cond.constant M.1.cls i v).before a0 Z = true) (k : WB b l Z n M pc' ls (.int v :: st) H ce sl Q) : WB b l Z n M pc ls st H ce sl Q := by
  obtain ⟨hd, rfl⟩ := hd
  exact W.pure (fun p e s m args below meth c C T locs X target h => X.ldcI C.1 C.2.2.1 (mvT C.2.1 w) rfl (hb C.2.2.2.1 hd) h) k
theorem W.ldc2 {i : Nat} {v : Int64} (hd : D M pc (.ldc2_w i) 3 pc') (w : (Cond.constantLong M.1.cls i v).before a0 Z = true) (k : WB b l Z n M pc' ls (.long v :: st) H ce sl Q) : WB b l Z n M pc ls st H ce sl Q := by
  obtain ⟨hd, rfl⟩ := hd
  exact W.pure (fun p e s m args below meth c C T locs X target h => X.ldc2J C.1 C.2.2.1 (mvT C.2.1 w) rfl (hb C.2.2.2.1 hd) h) k
theorem W.iloadN {i : Fin 4} {v : Int32} (hd : D M pc (.iload_n i) 1 pc') (hl : ls[i.val]? = some (.val (.int v))) (k : WB b l Z n M pc' ls (.int v :: st) H ce sl Q) : WB b l Z n M pc ls st H ce sl Q := by
  obtain ⟨hd, rfl⟩ := hd
  exact W.pure (fun p e s m args below meth c C T locs X target h => XS.iloadN X.here C.1 rfl (hb C.2.2.2.1 hd) (loc_get hl) h) k
theorem W.iload {i : Nat} {v : Int32} (hd : D M pc (.iload i) 2 pc') (hl : ls[i]? = some (.val (.int v))) (k : WB b l Z n M pc' ls (.int v :: st) H ce sl Q) : WB b l Z n M pc ls st H ce sl Q := by
  obtain ⟨hd, rfl⟩ := hd
  exact W.pure (fun p e s m args below meth c C T locs X target h => XS.iload X.here C.1 rfl (hb C.2.2.2.1 hd) (loc_get hl) h) k
theorem W.lloadN {i : Fin 4} {v : Int64} (hd : D M pc (.lload_n i) 1 pc') (hl : ls[i.val]? = some (.val (.long v))) (k : WB b l Z n M pc' ls (.long v :: st) H ce sl Q) : WB b l Z n M pc ls st H ce sl Q := by
  obtain ⟨hd, rfl⟩ := hd
  exact W.pure (fun p e s m args below meth c C T locs X target h => XT.lloadN X.here C.1 rfl (hb C.2.2.2.1 hd) (loc_get hl) h) k
theorem W.lload {i : Nat} {v : Int64} (hd : D M pc (.lload i) 2 pc') (hl : ls[i]? = some (.val (.long v))) (k : WB b l Z n M pc' ls (.long v :: st) H ce sl Q) : WB b l Z n M pc ls st H ce sl Q := by
  obtain ⟨hd, rfl⟩ := hd
  exact W.pure (fun p e s m args below meth c C T locs X target h => XT.lload X.here C.1 rfl (hb C.2.2.2.1 hd) (loc_get hl) h) k
theorem W.aloadN {i : Fin 4} {v : Value} (hd : D M pc (.aload_n i) 1 pc') (hl : ls[i.val]? = some (.val v)) (hv : rfn v = true) (k : WB b l Z n M pc' ls (v :: st) H ce sl Q) : WB b l Z n M pc ls st H ce sl Q := by
  obtain ⟨hd, rfl⟩ := hd
  exact W.pure (fun p e s m args below meth c C T locs X target h => XS.aloadN X.here C.1 rfl (hb C.2.2.2.1 hd) (loc_get hl) (up_rfn n hv) h) k
theorem W.aload {i : Nat} {v : Value} (hd : D M pc (.aload i) 2 pc') (hl : ls[i]? = some (.val v)) (hv : rfn v = true) (k : WB b l Z n M pc' ls (v :: st) H ce sl Q) : WB b l Z n M pc ls st H ce sl Q := by
  obtain ⟨hd, rfl⟩ := hd
  exact W.pure (fun p e s m args below meth c C T locs X target h => XS.aload X.here C.1 rfl (hb C.2.2.2.1 hd) (loc_get hl) (up_rfn n hv) h) k
theorem W.istoreN {i : Fin 4} {v : Int32} (hd : D M pc (.istore_n i) 1 pc') (ho : one ls i.val = true) (k : WB b l Z n M pc' (ls.set i.val (.val (.int v))) st H ce sl Q) : WB b l Z n M pc ls (.int v :: st) H ce sl Q := by
  obtain ⟨hd, rfl⟩ := hd
  exact W.pure (fun p e s m args below meth c C T locs X target h => XS.istoreN X.here C.1 rfl (hb C.2.2.2.1 hd) rfl (store_1 (v := .int v) ho rfl) h) k
theorem W.istore {i : Nat} {v : Int32} (hd : D M pc (.istore i) 2 pc') (ho : one ls i = true) (k : WB b l Z n M pc' (ls.set i (.val (.int v))) st H ce sl Q) : WB b l Z n M pc ls (.int v :: st) H ce sl Q := by
  obtain ⟨hd, rfl⟩ := hd
  exact W.pure (fun p e s m args below meth c C T locs X target h => XS.istore X.here C.1 rfl (hb C.2.2.2.1 hd) rfl (store_1 (v := .int v) ho rfl) h) k
theorem W.astoreN {i : Fin 4} {v : Value} (hd : D M pc (.astore_n i) 1 pc') (ho : one ls i.val = true) (hv : rfn v = true) (k : WB b l Z n M pc' (ls.set i.val (.val v)) st H ce sl Q) : WB b l Z n M pc ls (v :: st) H ce sl Q := by
  obtain ⟨hd, rfl⟩ := hd
  exact W.pure (fun p e s m args below meth c C T locs X target h => XS.astoreN X.here C.1 rfl (hb C.2.2.2.1 hd) rfl (up_rfn n hv) (store_1 ho (rfn_cat hv)) h) k
theorem W.astore {i : Nat} {v : Value} (hd : D M pc (.astore i) 2 pc') (ho : one ls i = true) (hv : rfn v = true) (k : WB b l Z n M pc' (ls.set i (.val v)) st H ce sl Q) : WB b l Z n M pc ls (v :: st) H ce sl Q := by
  obtain ⟨hd, rfl⟩ := hd
  exact W.pure (fun p e s m args below meth c C T locs X target h => XS.astore X.here C.1 rfl (hb C.2.2.2.1 hd) rfl (up_rfn n hv) (store_1 ho (rfn_cat hv)) h) k
theorem W.lstoreN {i : Fin 4} {v : Int64} (hd : D M pc (.lstore_n i) 1 pc') (ho : two ls i.val = true) (k : WB b l Z n M pc' ((ls.set i.val (.val (.long v))).set (i.val + 1) .second) st H ce sl Q) : WB b l Z n M pc ls (.long v :: st) H ce sl Q := by
  obtain ⟨hd, rfl⟩ := hd
  exact W.pure (fun p e s m args below meth c C T locs X target h => XT.lstoreN X.here C.1 rfl (hb C.2.2.2.1 hd) rfl (store_2 ho) h) k
theorem W.lstore {i : Nat} {v : Int64} (hd : D M pc (.lstore i) 2 pc') (ho : two ls i = true) (k : WB b l Z n M pc' ((ls.set i (.val (.long v))).set (i + 1) .second) st H ce sl Q) : WB b l Z n M pc ls (.long v :: st) H ce sl Q := by
  obtain ⟨hd, rfl⟩ := hd
  exact W.pure (fun p e s m args below meth c C T locs X target h => XT.lstore X.here C.1 rfl (hb C.2.2.2.1 hd) rfl (store_2 ho) h) k
theorem W.iinc {i : Nat} {cst : Int} {x : Int32} (v : Int32) (hd : D M pc (.iinc i cst) 3 pc') (hv : Int32.ofInt cst = v) (hl : ls[i]? = some (.val (.int x))) (k : WB b l Z n M pc' (ls.set i (.val (.int (x + v)))) st H ce sl Q) : WB b l Z n M pc ls st H ce sl Q := by
  obtain ⟨hd, rfl⟩ := hd
  exact W.pure (fun p e s m args below meth c C T locs X target h => XT.iincV X.here C.1 rfl v (hb C.2.2.2.1 hd) hv (loc_get hl) (store_1 (v := .int (x + v)) (by simp [one, hl, Value.category]) rfl) h) k
theorem W.dup {v : Value} (hd : D M pc .dup 1 pc') (hv : v.category = 1) (k : WB b l Z n M pc' ls (v :: v :: st) H ce sl Q) : WB b l Z n M pc ls (v :: st) H ce sl Q := by
  obtain ⟨hd, rfl⟩ := hd
  exact W.pure (fun p e s m args below meth c C T locs X target h => XS.dup X.here C.1 rfl (hb C.2.2.2.1 hd) rfl ((up_cat n v).trans hv) h) k
theorem W.pop {v : Value} (hd : D M pc .pop 1 pc') (hv : v.category = 1) (k : WB b l Z n M pc' ls st H ce sl Q) : WB b l Z n M pc ls (v :: st) H ce sl Q := by
  obtain ⟨hd, rfl⟩ := hd
  exact W.pure (fun p e s m args below meth c C T locs X target h => XT.pop X.here C.1 rfl (hb C.2.2.2.1 hd) rfl ((up_cat n v).trans hv) h) k
theorem W.dupX1 {v w : Value} (hd : D M pc .dup_x1 1 pc') (hv : v.category = 1) (hw : w.category = 1) (k : WB b l Z n M pc' ls (v :: w :: v :: st) H ce sl Q) : WB b l Z n M pc ls (v :: w :: st) H ce sl Q := by
  obtain ⟨hd, rfl⟩ := hd
  exact W.pure (fun p e s m args below meth c C T locs X target h => XT.dupX1 X.here C.1 rfl (hb C.2.2.2.1 hd) rfl ((up_cat n v).trans hv) ((up_cat n w).trans hw) h) k
theorem W.dup2 {v w : Value} (hd : D M pc .dup2 1 pc') (hv : v.category = 1) (hw : w.category = 1) (k : WB b l Z n M pc' ls (v :: w :: v :: w :: st) H ce sl Q) : WB b l Z n M pc ls (v :: w :: st) H ce sl Q := by
  obtain ⟨hd, rfl⟩ := hd
  exact W.pure (fun p e s m args below meth c C T locs X target h => XT.dup2 X.here C.1 rfl (hb C.2.2.2.1 hd) rfl ((up_cat n v).trans hv) ((up_cat n w).trans hw) h) k
theorem W.dup2L {x : Int64} (hd : D M pc .dup2 1 pc') (k : WB b l Z n M pc' ls (.long x :: .long x :: st) H ce sl Q) : WB b l Z n M pc ls (.long x :: st) H ce sl Q := by
  obtain ⟨hd, rfl⟩ := hd
  exact W.pure (fun p e s m args below meth c C T locs X target h => XT.dup2L X.here C.1 rfl (hb C.2.2.2.1 hd) rfl h) k
theorem W.goto {o : Int} {t : Nat} (hd : DB M pc (.goto o) o pc' t) (k : WB b l Z n M t ls st H ce sl Q) : WB b l Z n M pc ls st H ce sl Q :=
  W.pure (fun p e s m args below meth c C T locs X target h => XS.goto X.here C.1 rfl rfl (hb C.2.2.2.1 hd.1) hd.2.2.1 hd.2.2.2 h) k
theorem W.if_eq {x : Int32} {o : Int} {t : Nat} (hd : DB M pc (.ifCond .eq o) o pc' t) (ky : (x = 0) → WB b l Z n M t ls st H ce sl Q) (kn : (¬ x = 0) → WB b l Z n M pc' ls st H ce sl Q) : WB b l Z n M pc ls (.int x :: st) H ce sl Q := by
  obtain ⟨h1, rfl, h3, h4⟩ := hd
  by_cases q : (x = 0)
  · exact W.pure (fun p e s m args below meth c C T locs X target h => XS.ifYes X.here C.1 rfl rfl (hb C.2.2.2.1 h1) rfl (XT.i0_eq_t q) h3 h4 h) (ky q)
  · exact W.pure (fun p e s m args below meth c C T locs X target h => XS.ifNo X.here C.1 rfl (hb C.2.2.2.1 h1) rfl (XT.i0_eq_f q) h) (kn q)
theorem W.ifl_eq {x y : Int64} {o : Int} {t : Nat} (hd : DB M pc (.ifCond .eq o) o pc' t) (ky : (x = y) → WB b l Z n M t ls st H ce sl Q) (kn : (¬ x = y) → WB b l Z n M pc' ls st H ce sl Q) : WB b l Z n M pc ls (.int (XT.cmpL x y) :: st) H ce sl Q := by
  obtain ⟨h1, rfl, h3, h4⟩ := hd
  by_cases q : (x = y)
  · exact W.pure (fun p e s m args below meth c C T locs X target h => XS.ifYes X.here C.1 rfl rfl (hb C.2.2.2.1 h1) rfl (XT.ll_eq_t q) h3 h4 h) (ky q)
  · exact W.pure (fun p e s m args below meth c C T locs X target h => XS.ifNo X.here C.1 rfl (hb C.2.2.2.1 h1) rfl (XT.ll_eq_f q) h) (kn q)
theorem W.icmp_eq {x y : Int32} {o : Int} {t : Nat} (hd : DB M pc (.if_icmp .eq o) o pc' t) (ky : (x = y) → WB b l Z n M t ls st H ce sl Q) (kn : (¬ x = y) → WB b l Z n M pc' ls st H ce sl Q) : WB b l Z n M pc ls (.int y :: .int x :: st) H ce sl Q := by
  obtain ⟨h1, rfl, h3, h4⟩ := hd
  by_cases q : (x = y)
  · exact W.pure (fun p e s m args below meth c C T locs X target h => XS.icmpYes X.here C.1 rfl rfl (hb C.2.2.2.1 h1) rfl (XT.ii_eq_t q) h3 h4 h) (ky q)
  · exact W.pure (fun p e s m args below meth c C T locs X target h => XS.icmpNo X.here C.1 rfl (hb C.2.2.2.1 h1) rfl (XT.ii_eq_f q) h) (kn q)
theorem W.if_ne {x : Int32} {o : Int} {t : Nat} (hd : DB M pc (.ifCond .ne o) o pc' t) (ky : (¬ x = 0) → WB b l Z n M t ls st H ce sl Q) (kn : (x = 0) → WB b l Z n M pc' ls st H ce sl Q) : WB b l Z n M pc ls (.int x :: st) H ce sl Q := by
  obtain ⟨h1, rfl, h3, h4⟩ := hd
  by_cases q : (x = 0)
  · exact W.pure (fun p e s m args below meth c C T locs X target h => XS.ifNo X.here C.1 rfl (hb C.2.2.2.1 h1) rfl (XT.i0_ne_f q) h) (kn q)
  · exact W.pure (fun p e s m args below meth c C T locs X target h => XS.ifYes X.here C.1 rfl rfl (hb C.2.2.2.1 h1) rfl (XT.i0_ne_t q) h3 h4 h) (ky q)
theorem W.ifl_ne {x y : Int64} {o : Int} {t : Nat} (hd : DB M pc (.ifCond .ne o) o pc' t) (ky : (¬ x = y) → WB b l Z n M t ls st H ce sl Q) (kn : (x = y) → WB b l Z n M pc' ls st H ce sl Q) : WB b l Z n M pc ls (.int (XT.cmpL x y) :: st) H ce sl Q := by
  obtain ⟨h1, rfl, h3, h4⟩ := hd
  by_cases q : (x = y)
  · exact W.pure (fun p e s m args below meth c C T locs X target h => XS.ifNo X.here C.1 rfl (hb C.2.2.2.1 h1) rfl (XT.ll_ne_f q) h) (kn q)
  · exact W.pure (fun p e s m args below meth c C T locs X target h => XS.ifYes X.here C.1 rfl rfl (hb C.2.2.2.1 h1) rfl (XT.ll_ne_t q) h3 h4 h) (ky q)
theorem W.icmp_ne {x y : Int32} {o : Int} {t : Nat} (hd : DB M pc (.if_icmp .ne o) o pc' t) (ky : (¬ x = y) → WB b l Z n M t ls st H ce sl Q) (kn : (x = y) → WB b l Z n M pc' ls st H ce sl Q) : WB b l Z n M pc ls (.int y :: .int x :: st) H ce sl Q := by
  obtain ⟨h1, rfl, h3, h4⟩ := hd
  by_cases q : (x = y)
  · exact W.pure (fun p e s m args below meth c C T locs X target h => XS.icmpNo X.here C.1 rfl (hb C.2.2.2.1 h1) rfl (XT.ii_ne_f q) h) (kn q)
  · exact W.pure (fun p e s m args below meth c C T locs X target h => XS.icmpYes X.here C.1 rfl rfl (hb C.2.2.2.1 h1) rfl (XT.ii_ne_t q) h3 h4 h) (ky q)
theorem W.if_lt {x : Int32} {o : Int} {t : Nat} (hd : DB M pc (.ifCond .lt o) o pc' t) (ky : (x < 0) → WB b l Z n M t ls st H ce sl Q) (kn : (¬ x < 0) → WB b l Z n M pc' ls st H ce sl Q) : WB b l Z n M pc ls (.int x :: st) H ce sl Q := by
  obtain ⟨h1, rfl, h3, h4⟩ := hd
  by_cases q : (x < 0)
  · exact W.pure (fun p e s m args below meth c C T locs X target h => XS.ifYes X.here C.1 rfl rfl (hb C.2.2.2.1 h1) rfl (XT.i0_lt_t q) h3 h4 h) (ky q)
  · exact W.pure (fun p e s m args below meth c C T locs X target h => XS.ifNo X.here C.1 rfl (hb C.2.2.2.1 h1) rfl (XT.i0_lt_f q) h) (kn q)
theorem W.ifl_lt {x y : Int64} {o : Int} {t : Nat} (hd : DB M pc (.ifCond .lt o) o pc' t) (ky : (x < y) → WB b l Z n M t ls st H ce sl Q) (kn : (¬ x < y) → WB b l Z n M pc' ls st H ce sl Q) : WB b l Z n M pc ls (.int (XT.cmpL x y) :: st) H ce sl Q := by
  obtain ⟨h1, rfl, h3, h4⟩ := hd
  by_cases q : (x < y)
  · exact W.pure (fun p e s m args below meth c C T locs X target h => XS.ifYes X.here C.1 rfl rfl (hb C.2.2.2.1 h1) rfl (XT.ll_lt_t q) h3 h4 h) (ky q)
  · exact W.pure (fun p e s m args below meth c C T locs X target h => XS.ifNo X.here C.1 rfl (hb C.2.2.2.1 h1) rfl (XT.ll_lt_f q) h) (kn q)
theorem W.icmp_lt {x y : Int32} {o : Int} {t : Nat} (hd : DB M pc (.if_icmp .lt o) o pc' t) (ky : (x < y) → WB b l Z n M t ls st H ce sl Q) (kn : (¬ x < y) → WB b l Z n M pc' ls st H ce sl Q) : WB b l Z n M pc ls (.int y :: .int x :: st) H ce sl Q := by
  obtain ⟨h1, rfl, h3, h4⟩ := hd
  by_cases q : (x < y)
  · exact W.pure (fun p e s m args below meth c C T locs X target h => XS.icmpYes X.here C.1 rfl rfl (hb C.2.2.2.1 h1) rfl (XT.ii_lt_t q) h3 h4 h) (ky q)
  · exact W.pure (fun p e s m args below meth c C T locs X target h => XS.icmpNo X.here C.1 rfl (hb C.2.2.2.1 h1) rfl (XT.ii_lt_f q) h) (kn q)
theorem W.if_ge {x : Int32} {o : Int} {t : Nat} (hd : DB M pc (.ifCond .ge o) o pc' t) (ky : (¬ x < 0) → WB b l Z n M t ls st H ce sl Q) (kn : (x < 0) → WB b l Z n M pc' ls st H ce sl Q) : WB b l Z n M pc ls (.int x :: st) H ce sl Q := by
  obtain ⟨h1, rfl, h3, h4⟩ := hd
  by_cases q : (x < 0)
  · exact W.pure (fun p e s m args below meth c C T locs X target h => XS.ifNo X.here C.1 rfl (hb C.2.2.2.1 h1) rfl (XT.i0_ge_f q) h) (kn q)
  · exact W.pure (fun p e s m args below meth c C T locs X target h => XS.ifYes X.here C.1 rfl rfl (hb C.2.2.2.1 h1) rfl (XT.i0_ge_t q) h3 h4 h) (ky q)
theorem W.ifl_ge {x y : Int64} {o : Int} {t : Nat} (hd : DB M pc (.ifCond .ge o) o pc' t) (ky : (¬ x < y) → WB b l Z n M t ls st H ce sl Q) (kn : (x < y) → WB b l Z n M pc' ls st H ce sl Q) : WB b l Z n M pc ls (.int (XT.cmpL x y) :: st) H ce sl Q := by
  obtain ⟨h1, rfl, h3, h4⟩ := hd
  by_cases q : (x < y)
  · exact W.pure (fun p e s m args below meth c C T locs X target h => XS.ifNo X.here C.1 rfl (hb C.2.2.2.1 h1) rfl (XT.ll_ge_f q) h) (kn q)
  · exact W.pure (fun p e s m args below meth c C T locs X target h => XS.ifYes X.here C.1 rfl rfl (hb C.2.2.2.1 h1) rfl (XT.ll_ge_t q) h3 h4 h) (ky q)
theorem W.icmp_ge {x y : Int32} {o : Int} {t : Nat} (hd : DB M pc (.if_icmp .ge o) o pc' t) (ky : (¬ x < y) → WB b l Z n M t ls st H ce sl Q) (kn : (x < y) → WB b l Z n M pc' ls st H ce sl Q) : WB b l Z n M pc ls (.int y :: .int x :: st) H ce sl Q := by
  obtain ⟨h1, rfl, h3, h4⟩ := hd
  by_cases q : (x < y)
  · exact W.pure (fun p e s m args below meth c C T locs X target h => XS.icmpNo X.here C.1 rfl (hb C.2.2.2.1 h1) rfl (XT.ii_ge_f q) h) (kn q)
  · exact W.pure (fun p e s m args below meth c C T locs X target h => XS.icmpYes X.here C.1 rfl rfl (hb C.2.2.2.1 h1) rfl (XT.ii_ge_t q) h3 h4 h) (ky q)
theorem W.if_gt {x : Int32} {o : Int} {t : Nat} (hd : DB M pc (.ifCond .gt o) o pc' t) (ky : (0 < x) → WB b l Z n M t ls st H ce sl Q) (kn : (¬ 0 < x) → WB b l Z n M pc' ls st H ce sl Q) : WB b l Z n M pc ls (.int x :: st) H ce sl Q := by
  obtain ⟨h1, rfl, h3, h4⟩ := hd
  by_cases q : (0 < x)
  · exact W.pure (fun p e s m args below meth c C T locs X target h => XS.ifYes X.here C.1 rfl rfl (hb C.2.2.2.1 h1) rfl (XT.i0_gt_t q) h3 h4 h) (ky q)
  · exact W.pure (fun p e s m args below meth c C T locs X target h => XS.ifNo X.here C.1 rfl (hb C.2.2.2.1 h1) rfl (XT.i0_gt_f q) h) (kn q)
theorem W.ifl_gt {x y : Int64} {o : Int} {t : Nat} (hd : DB M pc (.ifCond .gt o) o pc' t) (ky : (y < x) → WB b l Z n M t ls st H ce sl Q) (kn : (¬ y < x) → WB b l Z n M pc' ls st H ce sl Q) : WB b l Z n M pc ls (.int (XT.cmpL x y) :: st) H ce sl Q := by
  obtain ⟨h1, rfl, h3, h4⟩ := hd
  by_cases q : (y < x)
  · exact W.pure (fun p e s m args below meth c C T locs X target h => XS.ifYes X.here C.1 rfl rfl (hb C.2.2.2.1 h1) rfl (XT.ll_gt_t q) h3 h4 h) (ky q)
  · exact W.pure (fun p e s m args below meth c C T locs X target h => XS.ifNo X.here C.1 rfl (hb C.2.2.2.1 h1) rfl (XT.ll_gt_f q) h) (kn q)
theorem W.icmp_gt {x y : Int32} {o : Int} {t : Nat} (hd : DB M pc (.if_icmp .gt o) o pc' t) (ky : (y < x) → WB b l Z n M t ls st H ce sl Q) (kn : (¬ y < x) → WB b l Z n M pc' ls st H ce sl Q) : WB b l Z n M pc ls (.int y :: .int x :: st) H ce sl Q := by
  obtain ⟨h1, rfl, h3, h4⟩ := hd
  by_cases q : (y < x)
  · exact W.pure (fun p e s m args below meth c C T locs X target h => XS.icmpYes X.here C.1 rfl rfl (hb C.2.2.2.1 h1) rfl (XT.ii_gt_t q) h3 h4 h) (ky q)
  · exact W.pure (fun p e s m args below meth c C T locs X target h => XS.icmpNo X.here C.1 rfl (hb C.2.2.2.1 h1) rfl (XT.ii_gt_f q) h) (kn q)
theorem W.if_le {x : Int32} {o : Int} {t : Nat} (hd : DB M pc (.ifCond .le o) o pc' t) (ky : (¬ 0 < x) → WB b l Z n M t ls st H ce sl Q) (kn : (0 < x) → WB b l Z n M pc' ls st H ce sl Q) : WB b l Z n M pc ls (.int x :: st) H ce sl Q := by
  obtain ⟨h1, rfl, h3, h4⟩ := hd
  by_cases q : (0 < x)
  · exact W.pure (fun p e s m args below meth c C T locs X target h => XS.ifNo X.here C.1 rfl (hb C.2.2.2.1 h1) rfl (XT.i0_le_f q) h) (kn q)
  · exact W.pure (fun p e s m args below meth c C T locs X target h => XS.ifYes X.here C.1 rfl rfl (hb C.2.2.2.1 h1) rfl (XT.i0_le_t q) h3 h4 h) (ky q)
theorem W.ifl_le {x y : Int64} {o : Int} {t : Nat} (hd : DB M pc (.ifCond .le o) o pc' t) (ky : (¬ y < x) → WB b l Z n M t ls st H ce sl Q) (kn : (y < x) → WB b l Z n M pc' ls st H ce sl Q) : WB b l Z n M pc ls (.int (XT.cmpL x y) :: st) H ce sl Q := by
  obtain ⟨h1, rfl, h3, h4⟩ := hd
  by_cases q : (y < x)
  · exact W.pure (fun p e s m args below meth c C T locs X target h => XS.ifNo X.here C.1 rfl (hb C.2.2.2.1 h1) rfl (XT.ll_le_f q) h) (kn q)
  · exact W.pure (fun p e s m args below meth c C T locs X target h => XS.ifYes X.here C.1 rfl rfl (hb C.2.2.2.1 h1) rfl (XT.ll_le_t q) h3 h4 h) (ky q)
theorem W.icmp_le {x y : Int32} {o : Int} {t : Nat} (hd : DB M pc (.if_icmp .le o) o pc' t) (ky : (¬ y < x) → WB b l Z n M t ls st H ce sl Q) (kn : (y < x) → WB b l Z n M pc' ls st H ce sl Q) : WB b l Z n M pc ls (.int y :: .int x :: st) H ce sl Q := by
  obtain ⟨h1, rfl, h3, h4⟩ := hd
  by_cases q : (y < x)
  · exact W.pure (fun p e s m args below meth c C T locs X target h => XS.icmpNo X.here C.1 rfl (hb C.2.2.2.1 h1) rfl (XT.ii_le_f q) h) (kn q)
  · exact W.pure (fun p e s m args below meth c C T locs X target h => XS.icmpYes X.here C.1 rfl rfl (hb C.2.2.2.1 h1) rfl (XT.ii_le_t q) h3 h4 h) (ky q)
theorem W.acmp_eq {v w : Value} {o : Int} {t : Nat} (hd : DB M pc (.if_acmp .eq o) o pc' t) (hv : v.isRef = true) (hw : w.isRef = true) (ky : (v = w) → WB b l Z n M t ls st H ce sl Q) (kn : (¬ v = w) → WB b l Z n M pc' ls st H ce sl Q) : WB b l Z n M pc ls (w :: v :: st) H ce sl Q := by
  obtain ⟨h1, rfl, h3, h4⟩ := hd
  by_cases q : (v = w)
  · exact W.pure (fun p e s m args below meth c C T locs X target h => XT.acmpYes X.here C.1 rfl rfl (hb C.2.2.2.1 h1) rfl (up_isRef n hv) (up_isRef n hw) (XT.aa_eq_t (congrArg (up n) q)) h3 h4 h) (ky q)
  · exact W.pure (fun p e s m args below meth c C T locs X target h => XT.acmpNo X.here C.1 rfl (hb C.2.2.2.1 h1) rfl (up_isRef n hv) (up_isRef n hw) (XT.aa_eq_f (fun z => q (up_inj hv hw z))) h) (kn q)
theorem W.acmp_ne {v w : Value} {o : Int} {t : Nat} (hd : DB M pc (.if_acmp .ne o) o pc' t) (hv : v.isRef = true) (hw : w.isRef = true) (ky : (¬ v = w) → WB b l Z n M t ls st H ce sl Q) (kn : (v = w) → WB b l Z n M pc' ls st H ce sl Q) : WB b l Z n M pc ls (w :: v :: st) H ce sl Q := by
  obtain ⟨h1, rfl, h3, h4⟩ := hd
  by_cases q : (v = w)
  · exact W.pure (fun p e s m args below meth c C T locs X target h => XT.acmpNo X.here C.1 rfl (hb C.2.2.2.1 h1) rfl (up_isRef n hv) (up_isRef n hw) (XT.aa_ne_f (congrArg (up n) q)) h) (kn q)
  · exact W.pure (fun p e s m args below meth c C T locs X target h => XT.acmpYes X.here C.1 rfl rfl (hb C.2.2.2.1 h1) rfl (up_isRef n hv) (up_isRef n hw) (XT.aa_ne_t (fun z => q (up_inj hv hw z))) h3 h4 h) (ky q)
theorem up_null {n : Nat} {v : Value} (hv : v.isRef = true) (h : ¬ v = .null) : ¬ up n v = .null := by cases v <;> simp_all [up, Value.isRef]
theorem W.ifnull {v : Value} {o : Int} {t : Nat} (hd : DB M pc (.ifnull o) o pc' t) (hv : v.isRef = true) (ky : (v = .null) → WB b l Z n M t ls st H ce sl Q) (kn : (¬ v = .null) → WB b l Z n M pc' ls st H ce sl Q) : WB b l Z n M pc ls (v :: st) H ce sl Q := by
  obtain ⟨h1, rfl, h3, h4⟩ := hd
  by_cases q : (v = .null)
  · exact W.pure (fun p e s m args below meth c C T locs X target h => XT.nullYes X.here C.1 rfl rfl (hb C.2.2.2.1 h1) rfl (congrArg (up n) q) h3 h4 h) (ky q)
  · exact W.pure (fun p e s m args below meth c C T locs X target h => XT.nullNo X.here C.1 rfl (hb C.2.2.2.1 h1) rfl (up_isRef n hv) (up_null hv q) h) (kn q)
theorem W.ifnonnull {v : Value} {o : Int} {t : Nat} (hd : DB M pc (.ifnonnull o) o pc' t) (hv : v.isRef = true) (ky : (¬ v = .null) → WB b l Z n M t ls st H ce sl Q) (kn : (v = .null) → WB b l Z n M pc' ls st H ce sl Q) : WB b l Z n M pc ls (v :: st) H ce sl Q := by
  obtain ⟨h1, rfl, h3, h4⟩ := hd
  by_cases q : (v = .null)
  · exact W.pure (fun p e s m args below meth c C T locs X target h => XT.nonnullNo X.here C.1 rfl (hb C.2.2.2.1 h1) rfl (congrArg (up n) q) h) (kn q)
  · exact W.pure (fun p e s m args below meth c C T locs X target h => XT.nonnullYes X.here C.1 rfl rfl (hb C.2.2.2.1 h1) rfl (up_isRef n hv) (up_null hv q) h3 h4 h) (ky q)
theorem W.nop_ {H2 : AHeap} (e : H2 = H) (k : WB b l Z n M pc ls st H2 ce sl Q) : WB b l Z n M pc ls st H ce sl Q := e ▸ k
/-! heap: reads -/
theorem W.getfield {i : Nat} {C O nm d : String} {fs : List (Key × Value)} {v : Value} {k : Nat} (j : Nat) (hd : D M pc (.getfield i) 3 pc') (w : (Cond.fieldLink M.1.cls i O nm d).before a0 Z = true) (hk : H[k]? = some (.inl (C, fs))) (hj : fs[j]? = some ((O, nm, d), v))
    (kk : WB b l Z n M pc' ls (v :: st) H ce sl Q) : WB b l Z n M pc ls (.ref k :: st) H ce sl Q := by
  obtain ⟨hd, rfl⟩ := hd
  refine W.step (fun p e s m args below meth c C T locs X hH hF => ?_) kk
  obtain ⟨T', X', e', stp⟩ := getF X C.1 C.2.1 C.2.2.1 (host := "") (Or.inl w) Via.refl rfl ((hH.2 k _ hk rfl).2.1 j _ hj) (g := mkF m pc (loc n ls) (stk n (.ref k :: st))) rfl rfl (hb C.2.2.2.1 hd)
  exact ⟨T', locs, X', e' ▸ hH, hF, stp⟩
theorem W.putfield {i : Nat} {C O nm d : String} {fs : List (Key × Value)} {v old : Value} {k kk : Nat} {ty : FieldType} (j : Nat) (hd : D M pc (.putfield i) 3 pc') (w : (Cond.fieldLink M.1.cls i O nm d).before a0 Z = true) (hk : H[k]? = some (.inl (C, fs))) (hj : fs[j]? = some ((O, nm, d), old))
    (L : (Cond.lays C O nm d).before a0 Z = true ∨ ((Cond.laysFinal C O nm d).before a0 Z = true ∧ M.1.cls = O ∧ M.1.name = "<init>")) (wi : (Cond.instantiable C kk).before a0 Z = true) (hty : parseFieldDescriptor d = some ty) (hn : ∀ n, narrow ty (up n v) = up n v) (hf : ∀ n, fits ty (up n v) = true)
    (k' : WB b l Z n M pc' ls st (H.set k (.inl (C, fs.set j ((O, nm, d), v)))) ce sl Q) : WB b l Z n M pc ls (v :: .ref k :: st) H ce sl Q := by
  obtain ⟨hd, rfl⟩ := hd
  refine W.step (fun p e s m args below meth c C T locs X hH hF => ?_) k'
  have O1 := hH.2 k _ hk rfl
  obtain ⟨T', h', X', e', Wq, stp⟩ := putF X C.1 C.2.1 C.2.2.1 (host := "") (Or.inl w) Via.refl rfl (O1.2.1 j _ hj) O1.1 (L.imp id (fun q => ⟨q.1, q.2.1, C.2.2.2.2.2.2.2.trans q.2.2⟩)) wi hty (hn n) (hf n) (g := mkF m pc (loc n ls) (stk n (v :: .ref k :: st))) rfl rfl (hb C.2.2.2.1 hd)
  subst e'
  exact ⟨T', _, X', hH.put Wq (OR.field (hH.2 k _ hk rfl) hj Wq), Fr.snoc X' hF (Nat.le_add_right n k), stp⟩
theorem arr_at {ty : FieldType} {vs : List Value} {cl : Cell} {i : Nat} {v : Value} {j : Int32} (e : cl.slots = (vs.map (up n)).toArray) (hj : ¬ j < 0 ∧ j.toNatClampNeg = i) (hv : vs[i]? = some v) : ¬ (j < 0 ∨ cl.slots.size ≤ j.toNatClampNeg) ∧ cl.slots[j.toNatClampNeg]? = some (up n v) := by
  have hlt := (List.getElem?_eq_some_iff.mp hv).1
  refine ⟨fun q => q.elim hj.1 fun q => ?_, ?_⟩
  · rw [e, hj.2, List.size_toArray, List.length_map] at q; omega
  · rw [e, hj.2]; simp [hv]
theorem W.arraylength {k : Nat} {ty : FieldType} {vs : List Value} (z : Int32) (hd : D M pc .arraylength 1 pc') (hk : H[k]? = some (.inr (ty, vs))) (hJ : isJ (.inr (ty, vs)) = false) (hN : Int32.ofNat vs.length = z) (kk : WB b l Z n M pc' ls (.int z :: st) H ce sl Q) : WB b l Z n M pc ls (.ref k :: st) H ce sl Q := by
  obtain ⟨hd, rfl⟩ := hd
  refine W.step (fun p e s m args below meth c C T locs X hH hF => ?_) kk
  obtain ⟨cl, A, e'⟩ := hH.2 k _ hk hJ
  refine ⟨T, locs, X, hH, hF, fun target h => X.arraylength C.1 A.1 (State.isArrayOf_alike C.2.1.alike A.2.1) (g := mkF m pc (loc n ls) (stk n (.ref k :: st))) rfl rfl (hb C.2.2.2.1 hd) _ ?_⟩
  have : cl.slots.size.toInt32 = z := by rw [e', List.size_toArray, List.length_map, ← hN]
  rw [this]; exact h
theorem W.iaload {k i : Nat} {vs : List Value} {v : Value} {j : Int32} (hd : D M pc .iaload 1 pc') (hk : H[k]? = some (.inr (.int, vs))) (hj : ¬ j < 0 ∧ j.toNatClampNeg = i) (hv : vs[i]? = some v) (kk : WB b l Z n M pc' ls (v :: st) H ce sl Q) : WB b l Z n M pc ls (.int j :: .ref k :: st) H ce sl Q := by
  obtain ⟨hd, rfl⟩ := hd
  refine W.step (fun p e s m args below meth c C T locs X hH hF => ?_) kk
  obtain ⟨cl, A, e'⟩ := hH.2 k _ hk rfl
  obtain ⟨q1, q2⟩ := arr_at (ty := .int) e' hj hv
  exact ⟨T, locs, X, hH, hF, fun target h => X.iaload C.1 A.1 (State.isArrayOf_alike C.2.1.alike A.2.1) A.2.2 q1 q2 (g := mkF m pc (loc n ls) (stk n (.int j :: .ref k :: st))) rfl rfl (hb C.2.2.2.1 hd) _ h⟩
theorem W.laload {k i : Nat} {vs : List Value} {v : Value} {j : Int32} (hd : D M pc .laload 1 pc') (hk : H[k]? = some (.inr (.long, vs))) (hj : ¬ j < 0 ∧ j.toNatClampNeg = i) (hv : vs[i]? = some v) (kk : WB b l Z n M pc' ls (v :: st) H ce sl Q) : WB b l Z n M pc ls (.int j :: .ref k :: st) H ce sl Q := by
  obtain ⟨hd, rfl⟩ := hd
  refine W.step (fun p e s m args below meth c C T locs X hH hF => ?_) kk
  obtain ⟨cl, A, e'⟩ := hH.2 k _ hk rfl
  obtain ⟨q1, q2⟩ := arr_at (ty := .int) e' hj hv
  exact ⟨T, locs, X, hH, hF, fun target h => X.laload C.1 A.1 (State.isArrayOf_alike C.2.1.alike A.2.1) A.2.2 q1 q2 (g := mkF m pc (loc n ls) (stk n (.int j :: .ref k :: st))) rfl rfl (hb C.2.2.2.1 hd) _ h⟩
theorem W.baload {k i : Nat} {vs : List Value} {v : Value} {j : Int32} (hd : D M pc .baload 1 pc') (hk : H[k]? = some (.inr (.byte, vs))) (hj : ¬ j < 0 ∧ j.toNatClampNeg = i) (hv : vs[i]? = some v) (kk : WB b l Z n M pc' ls (v :: st) H ce sl Q) : WB b l Z n M pc ls (.int j :: .ref k :: st) H ce sl Q := by
  obtain ⟨hd, rfl⟩ := hd
  refine W.step (fun p e s m args below meth c C T locs X hH hF => ?_) kk
  obtain ⟨cl, A, e'⟩ := hH.2 k _ hk rfl
  obtain ⟨q1, q2⟩ := arr_at (ty := .int) e' hj hv
  exact ⟨T, locs, X, hH, hF, fun target h => X.baloadBytes C.1 A.1 (State.isArrayOf_alike C.2.1.alike A.2.1) A.2.2 q1 q2 (g := mkF m pc (loc n ls) (stk n (.int j :: .ref k :: st))) rfl rfl (hb C.2.2.2.1 hd) _ h⟩
theorem W.zaload {k i : Nat} {vs : List Value} {v : Value} {j : Int32} (hd : D M pc .baload 1 pc') (hk : H[k]? = some (.inr (.boolean, vs))) (hj : ¬ j < 0 ∧ j.toNatClampNeg = i) (hv : vs[i]? = some v) (kk : WB b l Z n M pc' ls (v :: st) H ce sl Q) : WB b l Z n M pc ls (.int j :: .ref k :: st) H ce sl Q := by
  obtain ⟨hd, rfl⟩ := hd
  refine W.step (fun p e s m args below meth c C T locs X hH hF => ?_) kk
  obtain ⟨cl, A, e'⟩ := hH.2 k _ hk rfl
  obtain ⟨q1, q2⟩ := arr_at (ty := .int) e' hj hv
  exact ⟨T, locs, X, hH, hF, fun target h => X.baloadBooleans C.1 A.1 (State.isArrayOf_alike C.2.1.alike A.2.1) A.2.2 q1 q2 (g := mkF m pc (loc n ls) (stk n (.int j :: .ref k :: st))) rfl rfl (hb C.2.2.2.1 hd) _ h⟩
/-! heap: stores into arrays -/
theorem arr_in' {vs : List Value} {cl : Cell} {i : Nat} {j : Int32} (e : cl.slots = (vs.map (up n)).toArray) (hj : ¬ j < 0 ∧ j.toNatClampNeg = i) (hv : i < vs.length) : ¬ (j < 0 ∨ cl.slots.size ≤ j.toNatClampNeg) := by
  refine fun q => q.elim hj.1 fun q => ?_
  rw [e, hj.2] at q; simp at q; omega
theorem W.iastore {k i : Nat} {vs : List Value} {x : Int32} {j : Int32} (hd : D M pc .iastore 1 pc') (hk : H[k]? = some (.inr (.int, vs))) (hj : ¬ j < 0 ∧ j.toNatClampNeg = i) (hv : i < vs.length) (kk : WB b l Z n M pc' ls st (H.set k (.inr (.int, vs.set i (.int x)))) ce sl Q) : WB b l Z n M pc ls (.int x :: .int j :: .ref k :: st) H ce sl Q := by
  obtain ⟨hd, rfl⟩ := hd
  refine W.step (fun p e s m args below meth c C T locs X hH hF => ?_) kk
  have O1 := hH.2 k _ hk rfl
  obtain ⟨cl, A, e'⟩ := O1
  obtain ⟨T', h', X', eh, Wq, stp⟩ := stI X C.1 C.2.1 rfl A (arr_in' e' hj hv) (g := mkF m pc (loc n ls) (stk n (.int x :: .int j :: .ref k :: st))) rfl rfl (hb C.2.2.2.1 hd)
  subst eh
  rw [hj.2] at Wq
  exact ⟨T', _, X', hH.put Wq (OR.elem (w := .int x) ⟨cl, A, e'⟩ Wq), Fr.snoc X' hF (Nat.le_add_right n k), stp⟩
theorem W.lastore {k i : Nat} {vs : List Value} {x : Int64} {j : Int32} (hd : D M pc .lastore 1 pc') (hk : H[k]? = some (.inr (.long, vs))) (hj : ¬ j < 0 ∧ j.toNatClampNeg = i) (hv : i < vs.length) (kk : WB b l Z n M pc' ls st (H.set k (.inr (.long, vs.set i (.long x)))) ce sl Q) : WB b l Z n M pc ls (.long x :: .int j :: .ref k :: st) H ce sl Q := by
  obtain ⟨hd, rfl⟩ := hd
  refine W.step (fun p e s m args below meth c C T locs X hH hF => ?_) kk
  have O1 := hH.2 k _ hk rfl
  obtain ⟨cl, A, e'⟩ := O1
  obtain ⟨T', h', X', eh, Wq, stp⟩ := stJ X C.1 C.2.1 rfl A (arr_in' e' hj hv) (g := mkF m pc (loc n ls) (stk n (.long x :: .int j :: .ref k :: st))) rfl rfl (hb C.2.2.2.1 hd)
  subst eh
  rw [hj.2] at Wq
  exact ⟨T', _, X', hH.put Wq (OR.elem (w := .long x) ⟨cl, A, e'⟩ Wq), Fr.snoc X' hF (Nat.le_add_right n k), stp⟩
theorem W.bastore {k i : Nat} {vs : List Value} {x : Int32} {j : Int32} (hd : D M pc .bastore 1 pc') (hk : H[k]? = some (.inr (.byte, vs))) (hj : ¬ j < 0 ∧ j.toNatClampNeg = i) (hv : i < vs.length) (kk : WB b l Z n M pc' ls st (H.set k (.inr (.byte, vs.set i (.int x.toInt8.toInt32)))) ce sl Q) : WB b l Z n M pc ls (.int x :: .int j :: .ref k :: st) H ce sl Q := by
  obtain ⟨hd, rfl⟩ := hd
  refine W.step (fun p e s m args below meth c C T locs X hH hF => ?_) kk
  have O1 := hH.2 k _ hk rfl
  obtain ⟨cl, A, e'⟩ := O1
  obtain ⟨T', h', X', eh, Wq, stp⟩ := stB X C.1 C.2.1 rfl A (arr_in' e' hj hv) (g := mkF m pc (loc n ls) (stk n (.int x :: .int j :: .ref k :: st))) rfl rfl (hb C.2.2.2.1 hd)
  subst eh
  rw [hj.2] at Wq
  exact ⟨T', _, X', hH.put Wq (OR.elem (w := .int x.toInt8.toInt32) ⟨cl, A, e'⟩ Wq), Fr.snoc X' hF (Nat.le_add_right n k), stp⟩
theorem W.zastore {k i : Nat} {vs : List Value} {x : Int32} {j : Int32} (hd : D M pc .bastore 1 pc') (hk : H[k]? = some (.inr (.boolean, vs))) (hj : ¬ j < 0 ∧ j.toNatClampNeg = i) (hv : i < vs.length) (kk : WB b l Z n M pc' ls st (H.set k (.inr (.boolean, vs.set i (.int (x &&& 1))))) ce sl Q) : WB b l Z n M pc ls (.int x :: .int j :: .ref k :: st) H ce sl Q := by
  obtain ⟨hd, rfl⟩ := hd
  refine W.step (fun p e s m args below meth c C T locs X hH hF => ?_) kk
  have O1 := hH.2 k _ hk rfl
  obtain ⟨cl, A, e'⟩ := O1
  obtain ⟨T', h', X', eh, Wq, stp⟩ := stZ X C.1 C.2.1 rfl A (arr_in' e' hj hv) (g := mkF m pc (loc n ls) (stk n (.int x :: .int j :: .ref k :: st))) rfl rfl (hb C.2.2.2.1 hd)
  subst eh
  rw [hj.2] at Wq
  exact ⟨T', _, X', hH.put Wq (OR.elem (w := .int (x &&& 1)) ⟨cl, A, e'⟩ Wq), Fr.snoc X' hF (Nat.le_add_right n k), stp⟩
/-! heap: makers -/
theorem ext_push (h : Heap) (x : Cell) : Ext h (h.push x) ∧ (h.push x).size = h.size + 1 ∧ (h.push x)[h.size]? = some x :=
  ⟨⟨by simp, fun a c q => by rw [Array.getElem?_push_lt (Array.getElem?_eq_some_iff.mp q).1]; exact (Array.getElem?_eq_getElem _).symm.trans q⟩, by simp, by simp⟩
theorem W.new {i nk N : Nat} {C : String} {fs : List (Key × Value)} (hd : D M pc (.new i) 3 pc') (w : (Cond.classLink M.1.cls i C).before a0 Z = true) (K : OkC a0 Z C nk fs) (hN : H.length = N) (hc : ce + 1 ≤ M.2.2.2.2.cells) (hl : sl + nk ≤ M.2.2.2.2.slots)
    (kk : WB b l Z n M pc' ls (.ref N :: st) (H ++ [.inl (C, fs)]) (ce + 1) (sl + nk) Q) : WB b l Z n M pc ls st H ce sl Q := by
  obtain ⟨hd, rfl⟩ := hd
  refine W.step (fun p e s m args below meth c Cx T locs X hH hF => ?_) kk
  obtain ⟨vm', cC, kC, h1, h2, h3, h4, X', stp⟩ := X.newCold Cx.1 Cx.2.2.1 (mv Cx.2.1 w) (mv Cx.2.1 K.1) (mv Cx.2.1 K.2.1) (g := mkF m pc (loc n ls) (stk n st)) rfl (hb Cx.2.2.2.1 hd) hc hl
  obtain ⟨E, S, G⟩ := ext_push T.heap { cls := cC, slots := kC.instanceTypes.map defaultValue, vm := .none }
  have hfc : Z.vm.findClass C = some cC := by rw [← Cx.2.1.alike.findClass]; exact h1
  obtain ⟨kZ, z1, -⟩ := Vm.findClass_spec hfc
  obtain ⟨k', z2, z3⟩ := Cx.2.1.alike.2.2 _ _ z1
  cases h2.symm.trans z2
  have ei : kC.instanceTypes = kZ.instanceTypes := by rw [z3]
  refine ⟨_, locs, X', hH.push E S ⟨⟨_, kZ, G, hfc, z1, rfl, fun _ => by simp [ei]⟩, fun j q hq => ?_, K.slots⟩, hF, fun target h => stp target ?_⟩
  · obtain ⟨ty, L, ht, hv⟩ := K.2.2.1 q (List.mem_of_getElem? hq)
    obtain ⟨c1, k1, cf, kf, i1, f, a1, a2, a3, a4, a5, a6, -⟩ := L.spec
    cases hfc.symm.trans a1
    cases z1.symm.trans a2
    exact ⟨_, cf, kf, i1, f, G, a3, a4, by simp, rfl, a5, by rw [hv, up_default]; simp [ei, a6, (State.fieldFound?_type a3 ht).2]⟩
  · have : T.heap.size = n + N := by rw [hH.1, hN]
    rw [this]; exact h
theorem W.newarray {aty : ArrayType} {N cnt cap : Nat} {z : Int32} (hd : D M pc (.newarray aty) 2 pc') (w : (Cond.arrayClass (newarray.typeOf aty)).before a0 Z = true) (hz : ¬ z < 0 ∧ z.toNatClampNeg = cnt) (hN : H.length = N) (hcap : cnt ≤ cap) (hb8 : cap * 8 ≤ 536870912) (hc : ce + 1 ≤ M.2.2.2.2.cells) (hl : sl + cap ≤ M.2.2.2.2.slots)
    (kk : WB b l Z n M pc' ls (.ref N :: st) (H ++ [.inr (newarray.typeOf aty, List.replicate cnt (defaultValue (newarray.typeOf aty)))]) (ce + 1) (sl + cap) Q) : WB b l Z n M pc ls (.int z :: st) H ce sl Q := by
  obtain ⟨hd, rfl⟩ := hd
  obtain ⟨hz0, rfl⟩ := hz
  refine W.step (fun p e s m args below meth c Cx T locs X hH hF => ?_) kk
  have hcb : componentBytes (newarray.typeOf aty) ≤ 8 := by cases aty <;> decide
  obtain ⟨cA, kA, comp, h1, h2, h3, X', stp⟩ := X.newarrayPrim Cx.1 (mvA Cx.2.1 w) (g := mkF m pc (loc n ls) (stk n (.int z :: st))) rfl (hb Cx.2.2.2.1 hd) rfl hz0 (Nat.le_trans (Nat.mul_le_mul hcap hcb) hb8) hc (Nat.le_trans (Nat.add_le_add_left hcap _) hl)
  obtain ⟨E, S, G⟩ := ext_push T.heap { cls := cA, slots := Array.replicate z.toNatClampNeg (defaultValue (newarray.typeOf aty)), vm := .none }
  have hfc := h1
  rw [Cx.2.1.alike.findClass] at hfc
  obtain ⟨kZ, z1, -⟩ := Vm.findClass_spec hfc
  obtain ⟨k', z2, z3⟩ := Cx.2.1.alike.2.2 _ _ z1
  cases h2.symm.trans z2
  refine ⟨_, locs, X'.more (Nat.le_refl _) (Nat.add_le_add_left hcap _), hH.push E S ⟨_, ⟨G, ⟨by simp, kZ, z1, comp, by rw [← h3, z3]⟩, by simp⟩, ?_⟩, hF, fun target h => stp target ?_⟩
  · simp [up_default]
  · have : T.heap.size = n + N := by rw [hH.1, hN]
    rw [this]; exact h
/-! returns -/
theorem W.fin {v : Option Value} (hv : M.2.2.2.1 = none → v = none) (hc : ce ≤ M.2.2.2.2.cells) (hl : sl ≤ M.2.2.2.2.slots)
    (go : ∀ (p : Program) (e : Env) (s : State) (m : MethodId) (args : Array Value) (below : List Frame) (meth : Method) (c : Code), Ctx Z M p s m meth c → ∀ (T : State) (locs : List Loc), Stand p l e M.2.2.2.2 s m args below meth c T locs ce sl →
      ∀ fs : List Frame, (∀ (f : JFrame) (acts : List Action), f.method = m → f.locked = none → f.entered = [] → (doReturn e (T.setTop f) acts (v.map (up n))).1 = T.setFrames fs) → Steps p.tables e below (T.setTop (mkF m pc (loc n ls) (stk n st))) (T.setFrames fs))
    (q : Q v H) : WB b l Z n M pc ls st H ce sl Q := fun p e s m args below meth c C T locs X hH hF => by
  obtain ⟨fs, hr, hrun, hended, hW, hsame⟩ := X.leave (v := v.map (up n)) (fun h => by rw [hv (C.2.2.2.2.2.1.symm.trans h)]; rfl) C.2.2.2.2.2.2.1
  exact ⟨_, v, locs, H, go p e s m args below meth c C T locs X fs hr, hrun, hended, q, hH, hF, EndR.of ⟨⟨_, rfl⟩, hW, hsame.mono hc hl⟩⟩
theorem W.leave (hd : D M pc .return_ 1 pc') (hr : M.2.2.2.1 = none) (hc : ce ≤ M.2.2.2.2.cells) (hl : sl ≤ M.2.2.2.2.slots) (q : Q none H) : WB b l Z n M pc ls [] H ce sl Q :=
  W.fin (v := none) (fun _ => rfl) hc hl (fun p e s m args below meth c C T locs X fs h => X.returnOut C.1 (C.2.2.2.2.2.1.trans hr) (hb C.2.2.2.1 hd.1) h) q
theorem W.ireturn {x : Int32} (hd : D M pc .ireturn 1 pc') (hr : M.2.2.2.1 = some .int) (hc : ce ≤ M.2.2.2.2.cells) (hl : sl ≤ M.2.2.2.2.slots) (q : Q (some (.int x)) H) : WB b l Z n M pc ls (.int x :: st) H ce sl Q :=
  W.fin (v := some (.int x)) (fun h => by rw [hr] at h; cases h) hc hl (fun p e s m args below meth c C T locs X fs h => retOut X C.1 (t := .int) (w := .int x) (i := .ireturn) (C.2.2.2.2.2.1.trans hr) rfl (Or.inl ⟨rfl, Or.inl rfl, _, rfl⟩) (hb C.2.2.2.1 hd.1) h) q
theorem W.lreturn {x : Int64} (hd : D M pc .lreturn 1 pc') (hr : M.2.2.2.1 = some .long) (hc : ce ≤ M.2.2.2.2.cells) (hl : sl ≤ M.2.2.2.2.slots) (q : Q (some (.long x)) H) : WB b l Z n M pc ls (.long x :: st) H ce sl Q :=
  W.fin (v := some (.long x)) (fun h => by rw [hr] at h; cases h) hc hl (fun p e s m args below meth c C T locs X fs h => retOut X C.1 (t := .long) (w := .long x) (i := .lreturn) (C.2.2.2.2.2.1.trans hr) rfl (Or.inr (Or.inl ⟨rfl, rfl, _, rfl⟩)) (hb C.2.2.2.1 hd.1) h) q
/-- a boolean, byte, char or short: what is left of the int -/
theorem W.nreturn {x : Int32} (t : FieldType) (hd : D M pc .ireturn 1 pc') (hr : M.2.2.2.1 = some t) (ht : t = .boolean ∨ t = .byte ∨ t = .char ∨ t = .short) (hc : ce ≤ M.2.2.2.2.cells) (hl : sl ≤ M.2.2.2.2.slots) (q : Q (some (.int (nar t x))) H) : WB b l Z n M pc ls (.int x :: st) H ce sl Q :=
  W.fin (v := some (.int (nar t x))) (fun h => by rw [hr] at h; cases h) hc hl (fun p e s m args below meth c C T locs X fs h => retN X C.1 (C.2.2.2.2.2.1.trans hr) ht (hb C.2.2.2.1 hd.1) h) q
theorem W.areturn {v : Value} {t : FieldType} (hd : D M pc .areturn 1 pc') (hr : M.2.2.2.1 = some t) (ht : t.isReference = true) (hv : rfn v = true) (hc : ce ≤ M.2.2.2.2.cells) (hl : sl ≤ M.2.2.2.2.slots) (q : Q (some v) H) : WB b l Z n M pc ls (v :: st) H ce sl Q :=
  W.fin (v := some v) (fun h => by rw [hr] at h; cases h) hc hl (fun p e s m args below meth c C T locs X fs h => retOut X C.1 (t := t) (w := up n v) (i := .areturn) (C.2.2.2.2.2.1.trans hr) (by cases v <;> simp [rfn] at hv <;> cases t <;> simp_all [FieldType.isReference, narrow, up]) (Or.inr (Or.inr (Or.inr (Or.inr ⟨rfl, ht, up_rfn n hv⟩)))) (hb C.2.2.2.1 hd.1) h) q
/-! calls -/
def entryL (as : List Value) (k : Nat) : List Slot := Jvm.Sym.laidSlots as ++ List.replicate (k - (Jvm.Sym.laidSlots as).length) .unset
theorem laid_up (n : Nat) : ∀ as : List Value, Jvm.Sym.laidSlots (as.map (up n)) = (Jvm.Sym.laidSlots as).map (upS n)
  | [] => rfl
  | v :: as => by
    have ih := laid_up n as
    simp only [List.map_cons, Jvm.Sym.laidSlots, up_cat]
    split <;> simp [ih, upS]
theorem entry_up (n : Nat) (as : List Value) (k : Nat) (m : MethodId) : entryFrame m (as.map (up n)).toArray k = mkF m 0 (loc n (entryL as k)) [] := by
  have : argsToLocals (as.map (up n)).toArray k = loc n (entryL as k) := Array.toList_inj.mp (by
    rw [Jvm.Sym.argsToLocals_toList]
    simp [entryL, laid_up, loc, upS])
  unfold entryFrame
  rw [this]
theorem W.met {as : List Value} (hW : WB b l Z n M 0 (entryL as M.2.2.1) [] H 0 0 Q) (pn : plainFor M.1 = true) {h : Heap} (hH : HR Z n h H) (ws : List Jvm.Cond) :
    MetFree l M.1 (head1 (Cond.code M.1 M.2.1 M.2.2.1 M.2.2.2.1 :: ws) M.2.2.2.2) (fun a U => a = (as.map (up n)).toArray ∧ Z.Warmed39 U.vm ∧ U.heap = h) (fun _ _ _ _ _ => True)
      (fun _ U o U' => ∃ v L, o = .returned v ∧ (∃ v0 H', v = v0.map (up n) ∧ Q v0 H' ∧ HR Z n U'.heap H' ∧ Fr n L) ∧ EndR b U o U' L M.2.2.2.2.cells M.2.2.2.2.slots) := by
  refine MetFree.of_bodySF pn hisR ?_
  intro p e s m args below meth c s₁ Bd hml hP hK
  obtain ⟨rfl, hZ, hh⟩ := hP
  have X0 : Stand p l e M.2.2.2.2 s m _ below meth c s₁ [] 0 0 := Stand.of_body Bd
  have e0 : s₁.heap = h := by rw [← hh, Bd.state]; rfl
  obtain ⟨s₂, v, L, H', h1, h2, h3, h4, h5, h6, h7⟩ := hW p e s m _ below meth c ⟨Bd.exec, hZ, findClass_of_methodNamed Bd.named, Bd.bytes, hml, Bd.returns, Bd.notSynchronized, (name_of_methodNamed Bd.named Bd.method).1⟩ s₁ [] X0 (e0 ▸ hH) (Fr.nil n)
  exact ⟨s₂, _, castTop (entry_up n as _ m) h1, h2, h3, _, L, rfl, ⟨v, H', rfl, h4, h5, h6⟩, h7⟩
def RetQ (Z : State) (n : Nat) (Q : Option Value → AHeap → Prop) (v : Option Value) (h2 : Heap) (L : List Loc) : Prop := ∃ v0 H', v = v0.map (up n) ∧ Q v0 H' ∧ HR Z n h2 H' ∧ Fr n L
theorem W.metF {as : List Value} (hW : W l Z n M 0 (entryL as M.2.2.1) [] H 0 0 Q) (pn : plainFor M.1 = true) {h : Heap} (hH : HR Z n h H) (ws : List Jvm.Cond) :
    MetFree l M.1 (head1 (Cond.code M.1 M.2.1 M.2.2.1 M.2.2.2.1 :: ws) M.2.2.2.2) (fun a U => a = (as.map (up n)).toArray ∧ Z.Warmed39 U.vm ∧ U.heap = h) (fun _ _ _ _ _ => True)
      (fun _ U o U' => ∃ v L, o = .returned v ∧ RetQ Z n Q v U'.heap L ∧ FrameEnd U o U' L M.2.2.2.2.cells M.2.2.2.2.slots) := W.met hW pn hH ws
/-- what every call asks of the callee's own words -/
def OkM (a0 : Array Value) (Z : State) (M : Meth) (k : Nat) : Prop :=
  (Cond.code M.1 M.2.1 M.2.2.1 M.2.2.2.1).before a0 Z = true ∧ (Cond.initialized M.1.cls).before a0 Z = true ∧ plainFor M.1 = true ∧ (M.1.cls ≠ "java/lang/invoke/MethodHandle" ∧ M.1.cls ≠ "java/lang/invoke/VarHandle") ∧ ∀ sig, parseMethodDescriptor M.1.desc = some sig → k = sig.parameters.length
theorem arity {d : String} {ps : List FieldType} {r : Option FieldType} {k : Nat} (hd : parseMethodDescriptor d = some ⟨ps, r⟩) (hl : k = ps.length) : ∀ sig, parseMethodDescriptor d = some sig → k = sig.parameters.length := fun sig h => by
  cases hd.symm.trans h; exact hl
def wt (st : List Value) : Nat := (st.map fun v => v.category).sum
theorem wt_up (n : Nat) : ∀ st : List Value, ((stk n st).map fun v => v.category).sum = wt st
  | [] => rfl
  | v :: st => by
    have ih := wt_up n st
    simp only [stk, wt, List.map_cons, List.sum_cons, up_cat] at ih ⊢
    rw [ih]
/-- the callee's frames, words, cells and slots fit -/
def fitsRoom (M M' : Meth) (rest : List Value) (ce sl : Nat) : Bool :=
  decide (M'.2.2.2.2.frames + 1 ≤ M.2.2.2.2.frames) && decide (wt rest + (M'.2.2.1 + 11) + M'.2.2.2.2.locals ≤ M.2.2.2.2.locals) && decide (ce + M'.2.2.2.2.cells ≤ M.2.2.2.2.cells) && decide (sl + M'.2.2.2.2.slots ≤ M.2.2.2.2.slots)
theorem fits_ {M M' : Meth} {rest : List Value} {ce sl : Nat} (h : fitsRoom M M' rest ce sl = true) : M'.2.2.2.2.frames + 1 ≤ M.2.2.2.2.frames ∧ wt rest + (M'.2.2.1 + 11) + M'.2.2.2.2.locals ≤ M.2.2.2.2.locals ∧ ce + M'.2.2.2.2.cells ≤ M.2.2.2.2.cells ∧ sl + M'.2.2.2.2.slots ≤ M.2.2.2.2.slots := by
  simp only [fitsRoom, Bool.and_eq_true, decide_eq_true_eq] at h
  exact ⟨h.1.1.1, h.1.1.2, h.1.2, h.2⟩
theorem size_loc (n : Nat) (ls : List Slot) : (loc n ls).size = ls.length := by simp [loc]
theorem W.calls {M' : Meth} {i : Nat} {as rest : List Value} {Qc : Option Value → AHeap → Prop} (hd : D M pc (.invokestatic i) 3 pc') (w : (Cond.methodLink M.1.cls i M'.1).before a0 Z = true) (ws : (Cond.static M'.1).before a0 Z = true) (K : OkM a0 Z M' as.length) (hs : st = as.reverse ++ rest) (hz : ls.length = M.2.2.1) (hf : fitsRoom M M' rest ce sl = true)
    (hM : W l Z n M' 0 (entryL as M'.2.2.1) [] H 0 0 Qc) (kk : ∀ v H', Qc v H' → WB b l Z n M pc' ls (v.toList ++ rest) H' (ce + M'.2.2.2.2.cells) (sl + M'.2.2.2.2.slots) Q) : WB b l Z n M pc ls st H ce sl Q := by
  obtain ⟨hd, rfl⟩ := hd
  subst hs
  intro p e s m args below meth c C T locs X hH hF
  obtain ⟨f1, f2, f3, f4⟩ := fits_ hf
  obtain ⟨_, _, ⟨T', L', c', s'⟩, -, X', ⟨Lc, ⟨v0, H', hv, q1, q2, q3⟩, l1, l2, l3⟩, stp⟩ := Jvm.LawKit.callS X C.1 (y := M'.1) C.2.2.1 (mvT C.2.1 w) (mvT C.2.1 ws) (mvT C.2.1 K.2.1) (mvT C.2.1 K.1) K.2.2.2.1 (backOf (Q := RetQ Z n Qc) (W := wt rest) (W.metF hM K.2.2.1 hH []) C.2.1 K.1 K.2.1 f1 f2) (g := mkF m pc (loc n ls) (stk n (as.reverse ++ rest))) rfl
    ((size_loc n ls).trans (hz.trans C.2.2.2.2.1.symm)) (argsL := as.map (up n)) (rest := stk n rest) (fun sig h => by rw [List.length_map]; exact K.2.2.2.2 sig h) (by simp [stk, List.map_append, List.map_reverse]) (by rw [wt_up]; exact Nat.le_of_eq (Nat.zero_add _)) (hb C.2.2.2.1 hd) (fun _ _ => ⟨rfl, rfl, f3, f4⟩)
  dsimp only [Pt.U, Pt.locs, Pt.cells, Pt.slots] at X' l1 l2 l3 stp q2
  subst l1 l2 l3 hv
  obtain ⟨s₂, v, L, H'', g1, g2⟩ := kk v0 H' q1 p e s m args below meth c C T' _ X' q2 (Fr.app hF q3)
  refine ⟨s₂, v, L, H'', stp _ ?_, g2⟩
  have : stk n (v0.toList ++ rest) = (v0.map (up n)).toList ++ stk n rest := by cases v0 <;> simp [stk]
  rw [this] at g1; exact g1
theorem W.callv {M' : Meth} {i k : Nat} {C : String} {fs : List (Key × Value)} {as rest : List Value} {Qc : Option Value → AHeap → Prop} (hd : D M pc (.invokevirtual i) 3 pc') (w : (Cond.methodLink M.1.cls i M'.1).before a0 Z = true) (wd : (Cond.declares M'.1).before a0 Z = true) (wi : (Cond.instanceMethod M'.1).before a0 Z = true) (wsel : (Cond.selects C M'.1 M'.1).before a0 Z = true) (K : OkM a0 Z M' as.length) (hk : H[k]? = some (.inl (C, fs))) (hs : st = as.reverse ++ .ref k :: rest) (hz : ls.length = M.2.2.1) (hf : fitsRoom M M' rest ce sl = true)
    (hM : W l Z n M' 0 (entryL (.ref k :: as) M'.2.2.1) [] H 0 0 Qc) (kk : ∀ v H', Qc v H' → WB b l Z n M pc' ls (v.toList ++ rest) H' (ce + M'.2.2.2.2.cells) (sl + M'.2.2.2.2.slots) Q) : WB b l Z n M pc ls st H ce sl Q := by
  obtain ⟨hd, rfl⟩ := hd
  subst hs
  intro p e s m args below meth c Cx T locs X hH hF
  obtain ⟨f1, f2, f3, f4⟩ := fits_ hf
  obtain ⟨cq, kq, qa, qb, qc⟩ := isOf (T := T) Cx.2.1 rfl (hH.2 k _ hk rfl).1
  obtain ⟨_, _, ⟨T', L', c', s'⟩, -, X', ⟨Lc, ⟨v0, H', hv, q1, q2, q3⟩, l1, l2, l3⟩, stp⟩ := X.virtualBack Cx.1 (y := M'.1) (z := M'.1) Cx.2.2.1 (mvT Cx.2.1 w) (mvT Cx.2.1 wd) (notFace_of_selects (args := #[]) (mvT Cx.2.1 wsel)) (mvT Cx.2.1 wsel) (mvT Cx.2.1 wi) K.2.2.2.1 (backOf (Q := RetQ Z n Qc) (W := wt rest) (W.metF hM K.2.2.1 hH []) Cx.2.1 K.1 K.2.1 f1 f2) qa qc (g := mkF m pc (loc n ls) (stk n (as.reverse ++ .ref k :: rest))) rfl
    ((size_loc n ls).trans (hz.trans Cx.2.2.2.2.1.symm)) (Steps.refl _) (argsL := as.map (up n)) (rest := stk n rest) (fun sig h => by rw [List.length_map]; exact K.2.2.2.2 sig h) (by simp [stk, List.map_append, List.map_reverse, up]) (by rw [wt_up]; exact Nat.le_of_eq (Nat.zero_add _)) (hb Cx.2.2.2.1 hd) (fun _ _ => ⟨rfl, rfl, f3, f4⟩)
  dsimp only [Pt.U, Pt.locs, Pt.cells, Pt.slots] at X' l1 l2 l3 stp q2
  subst l1 l2 l3 hv
  obtain ⟨s₂, v, L, H'', g1, g2⟩ := kk v0 H' q1 p e s m args below meth c Cx T' _ X' q2 (Fr.app hF q3)
  refine ⟨s₂, v, L, H'', stp.trans ?_, g2⟩
  have : stk n (v0.toList ++ rest) = (v0.map (up n)).toList ++ stk n rest := by cases v0 <;> simp [stk]
  rw [this] at g1; exact g1
theorem W.callp {M' : Meth} {i k kk0 : Nat} {fs : List (Key × Value)} {as rest : List Value} {Qc : Option Value → AHeap → Prop} (hd : D M pc (.invokevirtual i) 3 pc') (w : (Cond.methodLink M.1.cls i M'.1).before a0 Z = true) (wi : (Cond.instanceMethod M'.1).before a0 Z = true) (wp : (Cond.privateMethod M'.1).before a0 Z = true) (wk : (Cond.instantiable M'.1.cls kk0).before a0 Z = true) (K : OkM a0 Z M' as.length) (hk : H[k]? = some (.inl (M'.1.cls, fs))) (hs : st = as.reverse ++ .ref k :: rest) (hz : ls.length = M.2.2.1) (hf : fitsRoom M M' rest ce sl = true)
    (hM : W l Z n M' 0 (entryL (.ref k :: as) M'.2.2.1) [] H 0 0 Qc) (kk : ∀ v H', Qc v H' → WB b l Z n M pc' ls (v.toList ++ rest) H' (ce + M'.2.2.2.2.cells) (sl + M'.2.2.2.2.slots) Q) : WB b l Z n M pc ls st H ce sl Q := by
  obtain ⟨hd, rfl⟩ := hd
  subst hs
  intro p e s m args below meth c Cx T locs X hH hF
  obtain ⟨f1, f2, f3, f4⟩ := fits_ hf
  obtain ⟨cell, hc1, hc2⟩ := (hH.2 k _ hk rfl).1.cell
  have hpriv : s.PrivateAt M'.1 := Cond.privateMethod_at (mvP Cx.2.1 wp (args := #[]))
  obtain ⟨c2, k2, i1, i2, i3, i4, -⟩ := Cond.instantiable_spec (mvT (args := args) Cx.2.1 wk)
  have hni : k2.isInterface = false := by simp only [Bool.or_eq_false_iff] at i4; exact i4.1
  have hsel : (Cond.selects M'.1.cls M'.1 M'.1).before args s = true := selects_self_of_private i1 i2 hni hpriv (mvT Cx.2.1 wi) K.2.2.2.1
  obtain ⟨_, _, ⟨T', L', c', s'⟩, -, X', ⟨Lc, ⟨v0, H', hv, q1, q2, q3⟩, l1, l2, l3⟩, stp⟩ := X.privateBack Cx.1 (y := M'.1) Cx.2.2.1 (mvT Cx.2.1 w) (mvT Cx.2.1 wi) hsel hpriv (mvT Cx.2.1 K.1) K.2.2.2.1 (backOf (Q := RetQ Z n Qc) (W := wt rest) (W.metF hM K.2.2.1 hH []) Cx.2.1 K.1 K.2.1 f1 f2) (g := mkF m pc (loc n ls) (stk n (as.reverse ++ .ref k :: rest))) rfl
    ((size_loc n ls).trans (hz.trans Cx.2.2.2.2.1.symm)) (Steps.refl _) (a := n + k) hc1 hc2 (argsL := as.map (up n)) (rest := stk n rest) (fun sig h => by rw [List.length_map]; exact K.2.2.2.2 sig h) (by simp [stk, List.map_append, List.map_reverse, up]) (by rw [wt_up]; exact Nat.le_of_eq (Nat.zero_add _)) (hb Cx.2.2.2.1 hd) (fun _ _ => ⟨rfl, rfl, f3, f4⟩)
  dsimp only [Pt.U, Pt.locs, Pt.cells, Pt.slots] at X' l1 l2 l3 stp q2
  subst l1 l2 l3 hv
  obtain ⟨s₂, v, L, H'', g1, g2⟩ := kk v0 H' q1 p e s m args below meth c Cx T' _ X' q2 (Fr.app hF q3)
  refine ⟨s₂, v, L, H'', stp.trans ?_, g2⟩
  have : stk n (v0.toList ++ rest) = (v0.map (up n)).toList ++ stk n rest := by cases v0 <;> simp [stk]
  rw [this] at g1; exact g1
theorem W.init {M' : Meth} {i k : Nat} {as rest : List Value} {Qc : Option Value → AHeap → Prop} (hd : D M pc (.invokespecial i) 3 pc') (hnm : M'.1.name = "<init>") (hrt : M'.2.2.2.1 = none) (w : (Cond.methodLink M.1.cls i M'.1).before a0 Z = true) (wi : (Cond.instanceMethod M'.1).before a0 Z = true) (K : OkM a0 Z M' as.length) (hs : st = as.reverse ++ .ref k :: rest) (hz : ls.length = M.2.2.1) (hf : fitsRoom M M' rest ce sl = true)
    (hM : W l Z n M' 0 (entryL (.ref k :: as) M'.2.2.1) [] H 0 0 Qc) (kk : ∀ v H', Qc v H' → WB b l Z n M pc' ls (v.toList ++ rest) H' (ce + M'.2.2.2.2.cells) (sl + M'.2.2.2.2.slots) Q) : WB b l Z n M pc ls st H ce sl Q := by
  obtain ⟨hd, rfl⟩ := hd
  subst hs
  intro p e s m args below meth c Cx T locs X hH hF
  obtain ⟨f1, f2, f3, f4⟩ := fits_ hf
  have wc := K.1
  rw [hrt] at wc
  obtain ⟨_, _, ⟨T', L', c', s'⟩, -, X', ⟨Lc, ⟨v0, H', hv, q1, q2, q3⟩, l1, l2, l3⟩, stp⟩ := X.specialBack Cx.1 (y := M'.1) hnm Cx.2.2.1 (mvT Cx.2.1 w) (mvT Cx.2.1 wi) (mvT Cx.2.1 wc) K.2.2.2.1 (backOf (Q := RetQ Z n Qc) (W := wt rest) (W.metF hM K.2.2.1 hH []) Cx.2.1 K.1 K.2.1 f1 f2) (g := mkF m pc (loc n ls) (stk n (as.reverse ++ .ref k :: rest))) rfl
    ((size_loc n ls).trans (hz.trans Cx.2.2.2.2.1.symm)) (Steps.refl _) (a := n + k) (argsL := as.map (up n)) (rest := stk n rest) (fun sig h => by rw [List.length_map]; exact K.2.2.2.2 sig h) (by simp [stk, List.map_append, List.map_reverse, up]) (by rw [wt_up]; exact Nat.le_of_eq (Nat.zero_add _)) (hb Cx.2.2.2.1 hd) (fun _ _ => ⟨rfl, rfl, f3, f4⟩)
  dsimp only [Pt.U, Pt.locs, Pt.cells, Pt.slots] at X' l1 l2 l3 stp q2
  subst l1 l2 l3 hv
  obtain ⟨s₂, v, L, H'', g1, g2⟩ := kk v0 H' q1 p e s m args below meth c Cx T' _ X' q2 (Fr.app hF q3)
  refine ⟨s₂, v, L, H'', stp.trans ?_, g2⟩
  have : stk n (v0.toList ++ rest) = (v0.map (up n)).toList ++ stk n rest := by cases v0 <;> simp [stk]
  rw [this] at g1; exact g1
theorem W.initO {i k : Nat} {rest : List Value} (hd : D M pc (.invokespecial i) 3 pc') (w1 : (Cond.methodLink M.1.cls i Lib.objectInit).before a0 Z = true) (w2 : (Cond.instanceMethod Lib.objectInit).before a0 Z = true) (w3 : (Cond.code Lib.objectInit ⟨#[0xb1]⟩ 1 none).before a0 Z = true) (hz : ls.length = M.2.2.1) (hf : decide (1 ≤ M.2.2.2.2.frames) && decide (wt rest + 12 ≤ M.2.2.2.2.locals) = true)
    (kk : WB b l Z n M pc' ls rest H ce sl Q) : WB b l Z n M pc ls (.ref k :: rest) H ce sl Q := by
  obtain ⟨hd, rfl⟩ := hd
  simp only [Bool.and_eq_true, decide_eq_true_eq] at hf
  refine W.step (fun p e s m args below meth c Cx T locs X hH hF => ?_) kk
  obtain ⟨T', X', e', stp⟩ := RoadKit.initO X Cx.1 Cx.2.1 Cx.2.2.1 w1 w2 w3 rfl (g := mkF m pc (loc n ls) (stk n (.ref k :: rest))) rfl ((size_loc n ls).trans (hz.trans Cx.2.2.2.2.1.symm)) rfl (hb Cx.2.2.2.1 hd) hf.1 (W := wt rest) (by rw [wt_up]; exact Nat.le_of_eq (Nat.zero_add _)) hf.2
  exact ⟨T', locs, X', e' ▸ hH, hF, stp⟩
/-- from W of the whole method to the run's end, over the heap at the start -/
theorem W.start {as : List Value} (hW : WB b l Z Z.heap.size M 0 (entryL as M.2.2.1) [] [] 0 0 Q) (pn : plainName M.1.cls = true) (ws : List Jvm.Cond) :
    MetFree l M.1 (head1 (Cond.code M.1 M.2.1 M.2.2.1 M.2.2.2.1 :: ws) M.2.2.2.2) (fun a U => a = (as.map (up Z.heap.size)).toArray ∧ Z.Warmed39 U.vm ∧ U.heap = Z.heap) (fun _ _ _ _ _ => True)
      (fun _ U o U' => ∃ v L, o = .returned v ∧ (∃ v0 H', v = v0.map (up Z.heap.size) ∧ Q v0 H' ∧ HR Z Z.heap.size U'.heap H' ∧ Fr Z.heap.size L) ∧ EndR b U o U' L M.2.2.2.2.cells M.2.2.2.2.slots) :=
  W.met hW (plainFor_of_name pn) ⟨rfl, fun k o h _ => by cases h⟩ ws

/-- what it returns, and the heap it leaves -/
def Is (v : Option Value) (H1 : AHeap) : Option Value → AHeap → Prop := fun v' H' => v' = v ∧ H' = H1
theorem W.callsV {M' : Meth} {i : Nat} {as rest : List Value} {u : Value} {H1 : AHeap} (hd : D M pc (.invokestatic i) 3 pc') (w : (Cond.methodLink M.1.cls i M'.1).before a0 Z = true) (ws : (Cond.static M'.1).before a0 Z = true) (hM : W l Z n M' 0 (entryL as M'.2.2.1) [] H 0 0 (Is (some u) H1)) (K : OkM a0 Z M' as.length) (hs : st = as.reverse ++ rest) (hz : ls.length = M.2.2.1) (hf : fitsRoom M M' rest ce sl = true)
    (kk : WB b l Z n M pc' ls (u :: rest) H1 (ce + M'.2.2.2.2.cells) (sl + M'.2.2.2.2.slots) Q) : WB b l Z n M pc ls st H ce sl Q := W.calls hd w ws K hs hz hf hM fun v H' q => by obtain ⟨rfl, rfl⟩ := q; exact kk
theorem W.callsN {M' : Meth} {i : Nat} {as rest : List Value} {H1 : AHeap} (hd : D M pc (.invokestatic i) 3 pc') (w : (Cond.methodLink M.1.cls i M'.1).before a0 Z = true) (ws : (Cond.static M'.1).before a0 Z = true) (hM : W l Z n M' 0 (entryL as M'.2.2.1) [] H 0 0 (Is none H1)) (K : OkM a0 Z M' as.length) (hs : st = as.reverse ++ rest) (hz : ls.length = M.2.2.1) (hf : fitsRoom M M' rest ce sl = true)
    (kk : WB b l Z n M pc' ls rest H1 (ce + M'.2.2.2.2.cells) (sl + M'.2.2.2.2.slots) Q) : WB b l Z n M pc ls st H ce sl Q := W.calls hd w ws K hs hz hf hM fun v H' q => by obtain ⟨rfl, rfl⟩ := q; exact kk
theorem W.callvV {M' : Meth} {i k : Nat} {C : String} {fs : List (Key × Value)} {as rest : List Value} {u : Value} {H1 : AHeap} (hd : D M pc (.invokevirtual i) 3 pc') (w : (Cond.methodLink M.1.cls i M'.1).before a0 Z = true) (wd : (Cond.declares M'.1).before a0 Z = true) (wi : (Cond.instanceMethod M'.1).before a0 Z = true) (wsel : (Cond.selects C M'.1 M'.1).before a0 Z = true) (hM : W l Z n M' 0 (entryL (.ref k :: as) M'.2.2.1) [] H 0 0 (Is (some u) H1)) (K : OkM a0 Z M' as.length) (hk : H[k]? = some (.inl (C, fs))) (hs : st = as.reverse ++ .ref k :: rest) (hz : ls.length = M.2.2.1) (hf : fitsRoom M M' rest ce sl = true)
    (kk : WB b l Z n M pc' ls (u :: rest) H1 (ce + M'.2.2.2.2.cells) (sl + M'.2.2.2.2.slots) Q) : WB b l Z n M pc ls st H ce sl Q := W.callv hd w wd wi wsel K hk hs hz hf hM fun v H' q => by obtain ⟨rfl, rfl⟩ := q; exact kk
theorem W.callvN {M' : Meth} {i k : Nat} {C : String} {fs : List (Key × Value)} {as rest : List Value} {H1 : AHeap} (hd : D M pc (.invokevirtual i) 3 pc') (w : (Cond.methodLink M.1.cls i M'.1).before a0 Z = true) (wd : (Cond.declares M'.1).before a0 Z = true) (wi : (Cond.instanceMethod M'.1).before a0 Z = true) (wsel : (Cond.selects C M'.1 M'.1).before a0 Z = true) (hM : W l Z n M' 0 (entryL (.ref k :: as) M'.2.2.1) [] H 0 0 (Is none H1)) (K : OkM a0 Z M' as.length) (hk : H[k]? = some (.inl (C, fs))) (hs : st = as.reverse ++ .ref k :: rest) (hz : ls.length = M.2.2.1) (hf : fitsRoom M M' rest ce sl = true)
    (kk : WB b l Z n M pc' ls rest H1 (ce + M'.2.2.2.2.cells) (sl + M'.2.2.2.2.slots) Q) : WB b l Z n M pc ls st H ce sl Q := W.callv hd w wd wi wsel K hk hs hz hf hM fun v H' q => by obtain ⟨rfl, rfl⟩ := q; exact kk
theorem W.callpV {M' : Meth} {i k kk0 : Nat} {fs : List (Key × Value)} {as rest : List Value} {u : Value} {H1 : AHeap} (hd : D M pc (.invokevirtual i) 3 pc') (w : (Cond.methodLink M.1.cls i M'.1).before a0 Z = true) (wi : (Cond.instanceMethod M'.1).before a0 Z = true) (wp : (Cond.privateMethod M'.1).before a0 Z = true) (wk : (Cond.instantiable M'.1.cls kk0).before a0 Z = true) (hM : W l Z n M' 0 (entryL (.ref k :: as) M'.2.2.1) [] H 0 0 (Is (some u) H1)) (K : OkM a0 Z M' as.length) (hk : H[k]? = some (.inl (M'.1.cls, fs))) (hs : st = as.reverse ++ .ref k :: rest) (hz : ls.length = M.2.2.1) (hf : fitsRoom M M' rest ce sl = true)
    (kk : WB b l Z n M pc' ls (u :: rest) H1 (ce + M'.2.2.2.2.cells) (sl + M'.2.2.2.2.slots) Q) : WB b l Z n M pc ls st H ce sl Q := W.callp hd w wi wp wk K hk hs hz hf hM fun v H' q => by obtain ⟨rfl, rfl⟩ := q; exact kk
theorem W.callpN {M' : Meth} {i k kk0 : Nat} {fs : List (Key × Value)} {as rest : List Value} {H1 : AHeap} (hd : D M pc (.invokevirtual i) 3 pc') (w : (Cond.methodLink M.1.cls i M'.1).before a0 Z = true) (wi : (Cond.instanceMethod M'.1).before a0 Z = true) (wp : (Cond.privateMethod M'.1).before a0 Z = true) (wk : (Cond.instantiable M'.1.cls kk0).before a0 Z = true) (hM : W l Z n M' 0 (entryL (.ref k :: as) M'.2.2.1) [] H 0 0 (Is none H1)) (K : OkM a0 Z M' as.length) (hk : H[k]? = some (.inl (M'.1.cls, fs))) (hs : st = as.reverse ++ .ref k :: rest) (hz : ls.length = M.2.2.1) (hf : fitsRoom M M' rest ce sl = true)
    (kk : WB b l Z n M pc' ls rest H1 (ce + M'.2.2.2.2.cells) (sl + M'.2.2.2.2.slots) Q) : WB b l Z n M pc ls st H ce sl Q := W.callp hd w wi wp wk K hk hs hz hf hM fun v H' q => by obtain ⟨rfl, rfl⟩ := q; exact kk
theorem W.initN {M' : Meth} {i k : Nat} {as rest : List Value} {H1 : AHeap} (hd : D M pc (.invokespecial i) 3 pc') (hnm : M'.1.name = "<init>") (hrt : M'.2.2.2.1 = none) (w : (Cond.methodLink M.1.cls i M'.1).before a0 Z = true) (wi : (Cond.instanceMethod M'.1).before a0 Z = true) (hM : W l Z n M' 0 (entryL (.ref k :: as) M'.2.2.1) [] H 0 0 (Is none H1)) (K : OkM a0 Z M' as.length) (hs : st = as.reverse ++ .ref k :: rest) (hz : ls.length = M.2.2.1) (hf : fitsRoom M M' rest ce sl = true)
    (kk : WB b l Z n M pc' ls rest H1 (ce + M'.2.2.2.2.cells) (sl + M'.2.2.2.2.slots) Q) : WB b l Z n M pc ls st H ce sl Q := W.init hd hnm hrt w wi K hs hz hf hM fun v H' q => by obtain ⟨rfl, rfl⟩ := q; exact kk
theorem W.callpX {M' : Meth} {i k kk0 : Nat} {fs : List (Key × Value)} {as rest : List Value} {P : Value → AHeap → Prop} (hd : D M pc (.invokevirtual i) 3 pc') (w : (Cond.methodLink M.1.cls i M'.1).before a0 Z = true) (wi : (Cond.instanceMethod M'.1).before a0 Z = true) (wp : (Cond.privateMethod M'.1).before a0 Z = true) (wk : (Cond.instantiable M'.1.cls kk0).before a0 Z = true) (hM : W l Z n M' 0 (entryL (.ref k :: as) M'.2.2.1) [] H 0 0 (fun v H' => ∃ u, v = some u ∧ P u H')) (K : OkM a0 Z M' as.length) (hk : H[k]? = some (.inl (M'.1.cls, fs))) (hs : st = as.reverse ++ .ref k :: rest) (hz : ls.length = M.2.2.1) (hf : fitsRoom M M' rest ce sl = true)
    (kk : ∀ u H', P u H' → WB b l Z n M pc' ls (u :: rest) H' (ce + M'.2.2.2.2.cells) (sl + M'.2.2.2.2.slots) Q) : WB b l Z n M pc ls st H ce sl Q := W.callp hd w wi wp wk K hk hs hz hf hM fun v H' q => by obtain ⟨u, rfl, q⟩ := q; exact kk u H' q
theorem W.callsX {M' : Meth} {i : Nat} {as rest : List Value} {P : Value → AHeap → Prop} (hd : D M pc (.invokestatic i) 3 pc') (w : (Cond.methodLink M.1.cls i M'.1).before a0 Z = true) (ws : (Cond.static M'.1).before a0 Z = true) (hM : W l Z n M' 0 (entryL as M'.2.2.1) [] H 0 0 (fun v H' => ∃ u, v = some u ∧ P u H')) (K : OkM a0 Z M' as.length) (hs : st = as.reverse ++ rest) (hz : ls.length = M.2.2.1) (hf : fitsRoom M M' rest ce sl = true)
    (kk : ∀ u H', P u H' → WB b l Z n M pc' ls (u :: rest) H' (ce + M'.2.2.2.2.cells) (sl + M'.2.2.2.2.slots) Q) : WB b l Z n M pc ls st H ce sl Q := W.calls hd w ws K hs hz hf hM fun v H' q => by obtain ⟨u, rfl, q⟩ := q; exact kk u H' q
theorem W.callsY {M' : Meth} {i : Nat} {as rest : List Value} {P : AHeap → Prop} (hd : D M pc (.invokestatic i) 3 pc') (w : (Cond.methodLink M.1.cls i M'.1).before a0 Z = true) (ws : (Cond.static M'.1).before a0 Z = true) (hM : W l Z n M' 0 (entryL as M'.2.2.1) [] H 0 0 (fun v H' => v = none ∧ P H')) (K : OkM a0 Z M' as.length) (hs : st = as.reverse ++ rest) (hz : ls.length = M.2.2.1) (hf : fitsRoom M M' rest ce sl = true)
    (kk : ∀ H', P H' → WB b l Z n M pc' ls rest H' (ce + M'.2.2.2.2.cells) (sl + M'.2.2.2.2.slots) Q) : WB b l Z n M pc ls st H ce sl Q := W.calls hd w ws K hs hz hf hM fun v H' q => by obtain ⟨rfl, q⟩ := q; exact kk H' q
theorem W.callvX {M' : Meth} {i k : Nat} {C : String} {fs : List (Key × Value)} {as rest : List Value} {P : Value → AHeap → Prop} (hd : D M pc (.invokevirtual i) 3 pc') (w : (Cond.methodLink M.1.cls i M'.1).before a0 Z = true) (wd : (Cond.declares M'.1).before a0 Z = true) (wi : (Cond.instanceMethod M'.1).before a0 Z = true) (wsel : (Cond.selects C M'.1 M'.1).before a0 Z = true) (hM : W l Z n M' 0 (entryL (.ref k :: as) M'.2.2.1) [] H 0 0 (fun v H' => ∃ u, v = some u ∧ P u H')) (K : OkM a0 Z M' as.length) (hk : H[k]? = some (.inl (C, fs))) (hs : st = as.reverse ++ .ref k :: rest) (hz : ls.length = M.2.2.1) (hf : fitsRoom M M' rest ce sl = true)
    (kk : ∀ u H', P u H' → WB b l Z n M pc' ls (u :: rest) H' (ce + M'.2.2.2.2.cells) (sl + M'.2.2.2.2.slots) Q) : WB b l Z n M pc ls st H ce sl Q := W.callv hd w wd wi wsel K hk hs hz hf hM fun v H' q => by obtain ⟨u, rfl, q⟩ := q; exact kk u H' q
theorem W.callvY {M' : Meth} {i k : Nat} {C : String} {fs : List (Key × Value)} {as rest : List Value} {P : AHeap → Prop} (hd : D M pc (.invokevirtual i) 3 pc') (w : (Cond.methodLink M.1.cls i M'.1).before a0 Z = true) (wd : (Cond.declares M'.1).before a0 Z = true) (wi : (Cond.instanceMethod M'.1).before a0 Z = true) (wsel : (Cond.selects C M'.1 M'.1).before a0 Z = true) (hM : W l Z n M' 0 (entryL (.ref k :: as) M'.2.2.1) [] H 0 0 (fun v H' => v = none ∧ P H')) (K : OkM a0 Z M' as.length) (hk : H[k]? = some (.inl (C, fs))) (hs : st = as.reverse ++ .ref k :: rest) (hz : ls.length = M.2.2.1) (hf : fitsRoom M M' rest ce sl = true)
    (kk : ∀ H', P H' → WB b l Z n M pc' ls rest H' (ce + M'.2.2.2.2.cells) (sl + M'.2.2.2.2.slots) Q) : WB b l Z n M pc ls st H ce sl Q := W.callv hd w wd wi wsel K hk hs hz hf hM fun v H' q => by obtain ⟨rfl, q⟩ := q; exact kk H' q
/-- ldc of a String: behind it the walk goes on over the tables that the constant left -/
theorem W.ldcStr {i nn : Nat} {text : String} (hd : D M pc (.ldc i) 2 pc') (w : (Cond.stringLink M.1.cls i text).before a0 Z = true) (wS : ∀ a ∈ Bundle.stringAtoms, a.before a0 Z = true) (hn : 4 * text.toList.length ≤ nn) (hbig : nn ≤ 536870912) (hc : ce + 2 ≤ M.2.2.2.2.cells) (hl : sl + (nn + 4) ≤ M.2.2.2.2.slots)
    (kk : ∀ (a : Addr) (d : Nat), WB false l Z n M pc' ls (.retAddr a :: st) (H ++ List.replicate d junk) (ce + 2) (sl + (nn + 4)) (fun v H' => Q v H' ∧ H.length + d ≤ H'.length)) : WB true l Z n M pc ls st H ce sl Q := by
  obtain ⟨hd, rfl⟩ := hd
  intro p e s m args below meth c C T locs X hH hF
  have X0 : Stand p l e M.2.2.2.2 (s.setVm s.vm) m args below meth c T locs ce sl := X
  obtain ⟨a, T', h', k1, X', e', E, hS', hk1, hZ', hown', stp⟩ := ldcS (Z := Z) (a0 := a0) X0 C.1 C.2.1 (own := M.1.cls) (text := text) (index := i) C.2.2.1 w wS rfl (k0 := 0) ((State.WarmedH.refl s).since 0) (Nat.zero_le _) (g := mkF m pc (loc n ls) (stk n st)) rfl (hb C.2.2.2.1 hd) hn hbig hc hl
  subst e'
  have hH' : HR Z n T'.heap (H ++ List.replicate (T'.heap.size - T.heap.size) junk) := by
    have h1 := E.1
    refine ⟨by rw [List.length_append, List.length_replicate]; have := hH.1; omega, fun k o hk hJ => ?_⟩
    rw [List.getElem?_append] at hk
    split at hk
    · exact (hH.2 k o hk hJ).ext E
    · have := List.eq_of_mem_replicate (List.mem_of_getElem? hk)
      rw [this] at hJ; cases hJ
  obtain ⟨s₂, v, L, H'', g1, g2, g3, ⟨g4, g4'⟩, g5, g6, g7⟩ := kk a (T'.heap.size - T.heap.size) p e (s.setVm T'.vm) m args below meth c ⟨C.1, hZ', hown', C.2.2.2⟩ T' locs X' hH' hF
  have hsz : k1 ≤ s₂.heap.size := by have h1 := E.1; have h2 := hH.1; have h3 := g5.1; omega
  obtain ⟨q1, q2, q3⟩ := hS'.ended (U := s₂) g7.2.1 hsz g7.2.2
  exact ⟨s₂, v, L, H'', stp _ g1, g2, g3, g4, g5, g6, g7.1, q1, q2, q3⟩
theorem nar_ref (n : Nat) {v : Value} {c : String} (h : v.isRef = true) : narrow (.object c) (up n v) = up n v := by
  cases v <;> first | rfl | (simp [Value.isRef] at h)
theorem fits_ref' (n : Nat) {v : Value} {c : String} (h : v.isRef = true) : fits (.object c) (up n v) = true := by
  cases v <;> first | rfl | (simp [Value.isRef] at h)
theorem rfn_of {v : Value} (h : v.isRef = true) : rfn v = true := by cases v <;> first | rfl | (simp [Value.isRef] at h)
end Rules
/-! bits of ints and longs -/
theorem bx32 {a b : Int32} (h : ∀ i, i < 32 → a.toBitVec.getLsbD i = b.toBitVec.getLsbD i) : a = b := Int32.toBitVec_inj.mp (BitVec.eq_of_getLsbD_eq h)
theorem bx64 {a b : Int64} (h : ∀ i, i < 64 → a.toBitVec.getLsbD i = b.toBitVec.getLsbD i) : a = b := Int64.toBitVec_inj.mp (BitVec.eq_of_getLsbD_eq h)
theorem sm32 : ∀ m : Fin 32, ((BitVec.ofNat 32 m.1).smod 32).toNat = m.1 := by decide
theorem sm64 : ∀ m : Fin 64, ((BitVec.ofNat 64 m.1).smod 64).toNat = m.1 := by decide
theorem amt32 {k : Int32} {m : Nat} (hk : k.toBitVec.toNat = m) (hm : m < 32) : (k.toBitVec.smod 32).toNat = m := by
  have : k.toBitVec = BitVec.ofNat 32 m := BitVec.eq_of_toNat_eq (by rw [hk, BitVec.toNat_ofNat]; omega)
  rw [this]; exact sm32 ⟨m, hm⟩
theorem amt64 {k : Int64} {m : Nat} (hk : k.toBitVec.toNat = m) (hm : m < 64) : (k.toBitVec.smod 64).toNat = m := by
  have : k.toBitVec = BitVec.ofNat 64 m := BitVec.eq_of_toNat_eq (by rw [hk, BitVec.toNat_ofNat]; omega)
  rw [this]; exact sm64 ⟨m, hm⟩
theorem shl_bit {x k : Int32} {m : Nat} (hk : k.toBitVec.toNat = m) (hm : m < 32) (i : Nat) : (x <<< k).toBitVec.getLsbD i = (decide (i < 32) && !decide (i < m) && x.toBitVec.getLsbD (i - m)) := by
  show (x.toBitVec <<< (k.toBitVec.smod 32)).getLsbD i = _
  rw [BitVec.shiftLeft_eq', amt32 hk hm, BitVec.getLsbD_shiftLeft]
theorem shlL_bit {x k : Int64} {m : Nat} (hk : k.toBitVec.toNat = m) (hm : m < 64) (i : Nat) : (x <<< k).toBitVec.getLsbD i = (decide (i < 64) && !decide (i < m) && x.toBitVec.getLsbD (i - m)) := by
  show (x.toBitVec <<< (k.toBitVec.smod 64)).getLsbD i = _
  rw [BitVec.shiftLeft_eq', amt64 hk hm, BitVec.getLsbD_shiftLeft]
theorem ushr_bit {v k : Int32} {m : Nat} (hk : (k &&& 31).toBitVec.toNat = m) (i : Nat) : (XT.ushr v k).toBitVec.getLsbD i = v.toBitVec.getLsbD (m + i) := by
  have hm : m < 32 := by
    subst hk
    have : (k &&& 31).toBitVec = k.toBitVec &&& 31#32 := rfl
    rw [this, BitVec.toNat_and]
    exact Nat.lt_of_le_of_lt Nat.and_le_right (by decide)
  show (v.toBitVec >>> ((k &&& 31).toBitVec % 32)).getLsbD i = _
  have h2 : ((k &&& 31).toBitVec % 32).toNat = m := by rw [BitVec.toNat_umod, hk]; exact Nat.mod_eq_of_lt hm
  rw [BitVec.ushiftRight_eq', h2, BitVec.getLsbD_ushiftRight]
theorem ushrL_bit {v : Int64} {k : Int32} {m : Nat} (hk : (k.toInt64 &&& 63).toBitVec.toNat = m) (i : Nat) : (XT.ushrL v k).toBitVec.getLsbD i = v.toBitVec.getLsbD (m + i) := by
  have hm : m < 64 := by
    subst hk
    have : (k.toInt64 &&& 63).toBitVec = k.toInt64.toBitVec &&& 63#64 := rfl
    rw [this, BitVec.toNat_and]
    exact Nat.lt_of_le_of_lt Nat.and_le_right (by decide)
  show (v.toBitVec >>> ((k.toInt64 &&& 63).toBitVec % 64)).getLsbD i = _
  have h2 : ((k.toInt64 &&& 63).toBitVec % 64).toNat = m := by rw [BitVec.toNat_umod, hk]; exact Nat.mod_eq_of_lt hm
  rw [BitVec.ushiftRight_eq', h2, BitVec.getLsbD_ushiftRight]
theorem byte_bit (x : Int32) (i : Nat) : (x.toInt8.toInt32).toBitVec.getLsbD i = (decide (i < 32) && x.toBitVec.getLsbD (if i < 8 then i else 7)) := by
  show ((x.toBitVec.signExtend 8).signExtend 32).getLsbD i = _
  rw [BitVec.getLsbD_signExtend, BitVec.msb_eq_getLsbD_last, BitVec.getLsbD_signExtend, BitVec.getLsbD_signExtend]
  by_cases h : i < 8
  · simp [h, show i < 32 by omega]
  · simp [h]
theorem and_bit (x y : Int32) (i : Nat) : (x &&& y).toBitVec.getLsbD i = (x.toBitVec.getLsbD i && y.toBitVec.getLsbD i) := BitVec.getLsbD_and
theorem or_bit (x y : Int32) (i : Nat) : (x ||| y).toBitVec.getLsbD i = (x.toBitVec.getLsbD i || y.toBitVec.getLsbD i) := BitVec.getLsbD_or
theorem andL_bit (x y : Int64) (i : Nat) : (x &&& y).toBitVec.getLsbD i = (x.toBitVec.getLsbD i && y.toBitVec.getLsbD i) := BitVec.getLsbD_and
theorem orL_bit (x y : Int64) (i : Nat) : (x ||| y).toBitVec.getLsbD i = (x.toBitVec.getLsbD i || y.toBitVec.getLsbD i) := BitVec.getLsbD_or
theorem i2l_bit (x : Int32) (i : Nat) : x.toInt64.toBitVec.getLsbD i = (decide (i < 64) && x.toBitVec.getLsbD (if i < 32 then i else 31)) := by
  show (x.toBitVec.signExtend 64).getLsbD i = _
  rw [BitVec.getLsbD_signExtend, BitVec.msb_eq_getLsbD_last]
  by_cases h : i < 32 <;> simp [h]
theorem l2i_bit (x : Int64) (i : Nat) : x.toInt32.toBitVec.getLsbD i = (decide (i < 32) && x.toBitVec.getLsbD i) := by
  show (x.toBitVec.signExtend 32).getLsbD i = _
  rw [BitVec.getLsbD_signExtend]
  by_cases h : i < 32
  · simp [h, show i < 64 by omega]
  · simp [h]
theorem lit_bit (m i : Nat) : (Int32.ofNat m).toBitVec.getLsbD i = (decide (i < 32) && m.testBit i) := by
  show (BitVec.ofNat 32 m).getLsbD i = _
  rw [BitVec.getLsbD_ofNat]
theorem litL_bit (m i : Nat) : (Int64.ofNat m).toBitVec.getLsbD i = (decide (i < 64) && m.testBit i) := by
  show (BitVec.ofNat 64 m).getLsbD i = _
  rw [BitVec.getLsbD_ofNat]
theorem m255 (i : Nat) : (255 : Int32).toBitVec.getLsbD i = decide (i < 8) := by
  have : (255 : Int32) = Int32.ofNat (2 ^ 8 - 1) := rfl
  rw [this, lit_bit, Nat.testBit_two_pow_sub_one]
  by_cases h : i < 8 <;> simp [h]; omega
theorem and_nat (x y : Int32) (m : Nat) (hy : y.toBitVec.toNat = m) : (x &&& y).toBitVec.toNat ≤ m := by
  show (x.toBitVec &&& y.toBitVec).toNat ≤ m
  rw [BitVec.toNat_and, hy]; exact Nat.and_le_right
theorem of_nat32 {x : Int32} {m : Nat} (h : x.toBitVec.toNat = m) : x = Int32.ofNat m := by
  apply Int32.toBitVec_inj.mp
  apply BitVec.eq_of_toNat_eq
  show _ = (BitVec.ofNat 32 m).toNat
  rw [BitVec.toNat_ofNat, h]
  have := x.toBitVec.isLt
  omega
theorem and_three (x : Int32) : x &&& 3 = 0 ∨ x &&& 3 = 1 ∨ x &&& 3 = 2 ∨ x &&& 3 = 3 := by
  have h := and_nat x 3 3 rfl
  have hc : (x &&& 3).toBitVec.toNat = 0 ∨ (x &&& 3).toBitVec.toNat = 1 ∨ (x &&& 3).toBitVec.toNat = 2 ∨ (x &&& 3).toBitVec.toNat = 3 := by omega
  rcases hc with q | q | q | q
  · exact Or.inl (of_nat32 q)
  · exact Or.inr (Or.inl (of_nat32 q))
  · exact Or.inr (Or.inr (Or.inl (of_nat32 q)))
  · exact Or.inr (Or.inr (Or.inr (of_nat32 q)))
theorem nar_byte (y : Int32) : nar .byte (y.toInt8.toInt32) = y.toInt8.toInt32 := by
  show y.toInt8.toInt32.toInt8.toInt32 = y.toInt8.toInt32
  simp
theorem ushr_zero (x : Int32) (k : Int32) (hk : (k &&& 31).toBitVec.toNat = 0) : XT.ushr x k = x := bx32 fun i _ => by rw [ushr_bit hk, Nat.zero_add]
theorem rem_nat (x d : Int32) (m : Nat) (hx : 0 ≤ x.toInt) (hd : d.toInt = m) (hm : 0 < m) (hb : m < 2 ^ 31) : ∃ k, k < m ∧ x % d = Int32.ofNat k := by
  have h1 : (x % d).toInt = x.toInt % m := by rw [Int32.toInt_mod, hd, Int.tmod_eq_emod_of_nonneg hx]
  have h2 := Int.emod_nonneg x.toInt (show (m : Int) ≠ 0 by omega)
  have h3 := Int.emod_lt_of_pos x.toInt (show (0 : Int) < m by omega)
  refine ⟨(x.toInt % m).toNat, by omega, ?_⟩
  apply Int32.toInt_inj.mp
  rw [h1, Int32.toInt_ofNat_of_lt (by omega)]
  omega
end Jvm.OwnW
namespace Jvm.Pilot.@@N@@
open Jvm Jvm.ClassFile Sem Op Lib Jvm.Free Jvm.Stand Jvm.LawKit Jvm.RoadKit Bundle Jvm.Pilot.@@N@@.Jvm.D Jvm.OwnW

theorem wd {c : Jvm.Cond} (k : Nat) (h : tables_1[k]? = some c) : c ∈ tables_1 := List.mem_of_getElem? h
def m0 : Meth := (x, code, maxLocals, ret, room_1)
def m1 : Meth := (⟨"com/example/reshelve/reshelve/service/sort/ZCurve", "<init>", "(II)V"⟩, prog_92_method_1_code, 3, none, { frames := 1, cells := 0, slots := 0, locals := 20 })
def m3 : Meth := (⟨"com/example/reshelve/reshelve/service/sort/ZCurve", "index", "([J)[J"⟩, prog_92_method_3_code, 14, some (.array .long), { frames := 0, cells := 1, slots := 1, locals := 0 })
def m4 : Meth := (⟨"com/example/reshelve/reshelve/service/sort/ZCurveIndexPinLaw", "ones", "(JJJI)I"⟩, method_3_code, 7, some .int, { frames := 1, cells := 0, slots := 0, locals := 22 })
def m5 : Meth := (⟨"com/example/reshelve/reshelve/service/sort/ZCurveIndexPinLaw", "bit", "(JI)I"⟩, method_2_code, 3, some .int, { frames := 0, cells := 0, slots := 0, locals := 0 })
def m6 : Meth := (⟨"com/example/reshelve/reshelve/service/sort/ZCurveIndexPinLaw", "lvl", "(JJJII)J"⟩, method_4_code, 14, some .long, { frames := 1, cells := 0, slots := 0, locals := 22 })
theorem d0_0 : D m0 0 (.iload_n 0) 1 1 := ⟨by decide +kernel, rfl⟩
theorem d0_1 : D m0 1 (.iconst 1) 1 2 := ⟨by decide +kernel, rfl⟩
theorem d0_2 : D m0 2 (.iand) 1 3 := ⟨by decide +kernel, rfl⟩
theorem d0_3 : DB m0 3 (.ifCond .ne 106) 106 6 109 := ⟨by decide +kernel, rfl, by decide, by decide⟩
theorem d0_6 : D m0 6 (.iload_n 1) 1 7 := ⟨by decide +kernel, rfl⟩
theorem d0_7 : D m0 7 (.ldc 13) 2 9 := ⟨by decide +kernel, rfl⟩
theorem d0_9 : D m0 9 (.iand) 1 10 := ⟨by decide +kernel, rfl⟩
theorem d0_10 : D m0 10 (.bipush 65) 2 12 := ⟨by decide +kernel, rfl⟩
theorem d0_12 : D m0 12 (.irem) 1 13 := ⟨by decide +kernel, rfl⟩
theorem d0_13 : D m0 13 (.istore 10) 2 15 := ⟨by decide +kernel, rfl⟩
theorem d0_15 : D m0 15 (.iload 10) 2 17 := ⟨by decide +kernel, rfl⟩
theorem d0_17 : D m0 17 (.bipush 64) 2 19 := ⟨by decide +kernel, rfl⟩
theorem d0_19 : DB m0 19 (.if_icmp .ne 7) 7 22 26 := ⟨by decide +kernel, rfl, by decide, by decide⟩
theorem d0_22 : D m0 22 (.lload_n 2) 1 23 := ⟨by decide +kernel, rfl⟩
theorem d0_23 : DB m0 23 (.goto 11) 11 26 34 := ⟨by decide +kernel, rfl, by decide, by decide⟩
theorem d0_26 : D m0 26 (.lload_n 2) 1 27 := ⟨by decide +kernel, rfl⟩
theorem d0_27 : D m0 27 (.lconst 1) 1 28 := ⟨by decide +kernel, rfl⟩
theorem d0_28 : D m0 28 (.iload 10) 2 30 := ⟨by decide +kernel, rfl⟩
theorem d0_30 : D m0 30 (.lshl) 1 31 := ⟨by decide +kernel, rfl⟩
theorem d0_31 : D m0 31 (.lconst 1) 1 32 := ⟨by decide +kernel, rfl⟩
theorem d0_32 : D m0 32 (.lsub) 1 33 := ⟨by decide +kernel, rfl⟩
theorem d0_33 : D m0 33 (.land) 1 34 := ⟨by decide +kernel, rfl⟩
theorem d0_34 : D m0 34 (.lstore 11) 2 36 := ⟨by decide +kernel, rfl⟩
theorem d0_36 : D m0 36 (.new 14) 3 39 := ⟨by decide +kernel, rfl⟩
theorem d0_39 : D m0 39 (.dup) 1 40 := ⟨by decide +kernel, rfl⟩
theorem d0_40 : D m0 40 (.iconst 1) 1 41 := ⟨by decide +kernel, rfl⟩
theorem d0_41 : D m0 41 (.iload 10) 2 43 := ⟨by decide +kernel, rfl⟩
theorem d0_43 : D m0 43 (.invokespecial 16) 3 46 := ⟨by decide +kernel, rfl⟩
theorem d0_46 : D m0 46 (.astore 13) 2 48 := ⟨by decide +kernel, rfl⟩
theorem d0_48 : D m0 48 (.aload 13) 2 50 := ⟨by decide +kernel, rfl⟩
theorem d0_50 : D m0 50 (.iconst 1) 1 51 := ⟨by decide +kernel, rfl⟩
theorem d0_51 : D m0 51 (.newarray .long) 2 53 := ⟨by decide +kernel, rfl⟩
theorem d0_53 : D m0 53 (.dup) 1 54 := ⟨by decide +kernel, rfl⟩
theorem d0_54 : D m0 54 (.iconst 0) 1 55 := ⟨by decide +kernel, rfl⟩
theorem d0_55 : D m0 55 (.lload 11) 2 57 := ⟨by decide +kernel, rfl⟩
theorem d0_57 : D m0 57 (.lastore) 1 58 := ⟨by decide +kernel, rfl⟩
theorem d0_58 : D m0 58 (.invokevirtual 19) 3 61 := ⟨by decide +kernel, rfl⟩
theorem d0_61 : D m0 61 (.astore 14) 2 63 := ⟨by decide +kernel, rfl⟩
theorem d0_63 : D m0 63 (.iload 10) 2 65 := ⟨by decide +kernel, rfl⟩
theorem d0_65 : DB m0 65 (.ifCond .ne 15) 15 68 80 := ⟨by decide +kernel, rfl, by decide, by decide⟩
theorem d0_68 : D m0 68 (.aload 14) 2 70 := ⟨by decide +kernel, rfl⟩
theorem d0_70 : D m0 70 (.arraylength) 1 71 := ⟨by decide +kernel, rfl⟩
theorem d0_71 : DB m0 71 (.ifCond .ne 7) 7 74 78 := ⟨by decide +kernel, rfl, by decide, by decide⟩
theorem d0_74 : D m0 74 (.iconst 1) 1 75 := ⟨by decide +kernel, rfl⟩
theorem d0_75 : DB m0 75 (.goto 4) 4 78 79 := ⟨by decide +kernel, rfl, by decide, by decide⟩
theorem d0_78 : D m0 78 (.iconst 0) 1 79 := ⟨by decide +kernel, rfl⟩
theorem d0_79 : D m0 79 (.ireturn) 1 80 := ⟨by decide +kernel, rfl⟩
theorem d0_80 : D m0 80 (.aload 14) 2 82 := ⟨by decide +kernel, rfl⟩
theorem d0_82 : D m0 82 (.arraylength) 1 83 := ⟨by decide +kernel, rfl⟩
theorem d0_83 : D m0 83 (.iconst 1) 1 84 := ⟨by decide +kernel, rfl⟩
theorem d0_84 : DB m0 84 (.if_icmp .ne 23) 23 87 107 := ⟨by decide +kernel, rfl, by decide, by decide⟩
theorem d0_87 : D m0 87 (.aload 14) 2 89 := ⟨by decide +kernel, rfl⟩
theorem d0_89 : D m0 89 (.iconst 0) 1 90 := ⟨by decide +kernel, rfl⟩
theorem d0_90 : D m0 90 (.laload) 1 91 := ⟨by decide +kernel, rfl⟩
theorem d0_91 : D m0 91 (.lload 11) 2 93 := ⟨by decide +kernel, rfl⟩
theorem d0_93 : D m0 93 (.bipush 64) 2 95 := ⟨by decide +kernel, rfl⟩
theorem d0_95 : D m0 95 (.iload 10) 2 97 := ⟨by decide +kernel, rfl⟩
theorem d0_97 : D m0 97 (.isub) 1 98 := ⟨by decide +kernel, rfl⟩
theorem d0_98 : D m0 98 (.lshl) 1 99 := ⟨by decide +kernel, rfl⟩
theorem d0_99 : D m0 99 (.lcmp) 1 100 := ⟨by decide +kernel, rfl⟩
theorem d0_100 : DB m0 100 (.ifCond .ne 7) 7 103 107 := ⟨by decide +kernel, rfl, by decide, by decide⟩
theorem d0_103 : D m0 103 (.iconst 1) 1 104 := ⟨by decide +kernel, rfl⟩
theorem d0_104 : DB m0 104 (.goto 4) 4 107 108 := ⟨by decide +kernel, rfl, by decide, by decide⟩
theorem d0_107 : D m0 107 (.iconst 0) 1 108 := ⟨by decide +kernel, rfl⟩
theorem d0_108 : D m0 108 (.ireturn) 1 109 := ⟨by decide +kernel, rfl⟩
theorem d0_109 : D m0 109 (.lload 4) 2 111 := ⟨by decide +kernel, rfl⟩
theorem d0_111 : D m0 111 (.ldc2_w 23) 3 114 := ⟨by decide +kernel, rfl⟩
theorem d0_114 : D m0 114 (.land) 1 115 := ⟨by decide +kernel, rfl⟩
theorem d0_115 : D m0 115 (.lstore 10) 2 117 := ⟨by decide +kernel, rfl⟩
theorem d0_117 : D m0 117 (.lload 6) 2 119 := ⟨by decide +kernel, rfl⟩
theorem d0_119 : D m0 119 (.ldc2_w 23) 3 122 := ⟨by decide +kernel, rfl⟩
theorem d0_122 : D m0 122 (.land) 1 123 := ⟨by decide +kernel, rfl⟩
theorem d0_123 : D m0 123 (.lstore 12) 2 125 := ⟨by decide +kernel, rfl⟩
theorem d0_125 : D m0 125 (.lload 8) 2 127 := ⟨by decide +kernel, rfl⟩
theorem d0_127 : D m0 127 (.ldc2_w 23) 3 130 := ⟨by decide +kernel, rfl⟩
theorem d0_130 : D m0 130 (.land) 1 131 := ⟨by decide +kernel, rfl⟩
theorem d0_131 : D m0 131 (.lstore 14) 2 133 := ⟨by decide +kernel, rfl⟩
theorem d0_133 : D m0 133 (.new 14) 3 136 := ⟨by decide +kernel, rfl⟩
theorem d0_136 : D m0 136 (.dup) 1 137 := ⟨by decide +kernel, rfl⟩
theorem d0_137 : D m0 137 (.iconst 3) 1 138 := ⟨by decide +kernel, rfl⟩
theorem d0_138 : D m0 138 (.iconst 3) 1 139 := ⟨by decide +kernel, rfl⟩
theorem d0_139 : D m0 139 (.invokespecial 16) 3 142 := ⟨by decide +kernel, rfl⟩
theorem d0_142 : D m0 142 (.astore 16) 2 144 := ⟨by decide +kernel, rfl⟩
theorem d0_144 : D m0 144 (.aload 16) 2 146 := ⟨by decide +kernel, rfl⟩
theorem d0_146 : D m0 146 (.iconst 3) 1 147 := ⟨by decide +kernel, rfl⟩
theorem d0_147 : D m0 147 (.newarray .long) 2 149 := ⟨by decide +kernel, rfl⟩
theorem d0_149 : D m0 149 (.dup) 1 150 := ⟨by decide +kernel, rfl⟩
theorem d0_150 : D m0 150 (.iconst 0) 1 151 := ⟨by decide +kernel, rfl⟩
theorem d0_151 : D m0 151 (.lload 10) 2 153 := ⟨by decide +kernel, rfl⟩
theorem d0_153 : D m0 153 (.lastore) 1 154 := ⟨by decide +kernel, rfl⟩
theorem d0_154 : D m0 154 (.dup) 1 155 := ⟨by decide +kernel, rfl⟩
theorem d0_155 : D m0 155 (.iconst 1) 1 156 := ⟨by decide +kernel, rfl⟩
theorem d0_156 : D m0 156 (.lload 12) 2 158 := ⟨by decide +kernel, rfl⟩
theorem d0_158 : D m0 158 (.lastore) 1 159 := ⟨by decide +kernel, rfl⟩
theorem d0_159 : D m0 159 (.dup) 1 160 := ⟨by decide +kernel, rfl⟩
theorem d0_160 : D m0 160 (.iconst 2) 1 161 := ⟨by decide +kernel, rfl⟩
theorem d0_161 : D m0 161 (.lload 14) 2 163 := ⟨by decide +kernel, rfl⟩
theorem d0_163 : D m0 163 (.lastore) 1 164 := ⟨by decide +kernel, rfl⟩
theorem d0_164 : D m0 164 (.invokevirtual 19) 3 167 := ⟨by decide +kernel, rfl⟩
theorem d0_167 : D m0 167 (.astore 17) 2 169 := ⟨by decide +kernel, rfl⟩
theorem d0_169 : D m0 169 (.lload 10) 2 171 := ⟨by decide +kernel, rfl⟩
theorem d0_171 : D m0 171 (.lload 12) 2 173 := ⟨by decide +kernel, rfl⟩
theorem d0_173 : D m0 173 (.lload 14) 2 175 := ⟨by decide +kernel, rfl⟩
theorem d0_175 : D m0 175 (.iconst 2) 1 176 := ⟨by decide +kernel, rfl⟩
theorem d0_176 : D m0 176 (.invokestatic 25) 3 179 := ⟨by decide +kernel, rfl⟩
theorem d0_179 : D m0 179 (.iconst 3) 1 180 := ⟨by decide +kernel, rfl⟩
theorem d0_180 : D m0 180 (.irem) 1 181 := ⟨by decide +kernel, rfl⟩
theorem d0_181 : D m0 181 (.istore 18) 2 183 := ⟨by decide +kernel, rfl⟩
theorem d0_183 : D m0 183 (.iload 18) 2 185 := ⟨by decide +kernel, rfl⟩
theorem d0_185 : D m0 185 (.lload 10) 2 187 := ⟨by decide +kernel, rfl⟩
theorem d0_187 : D m0 187 (.lload 12) 2 189 := ⟨by decide +kernel, rfl⟩
theorem d0_189 : D m0 189 (.lload 14) 2 191 := ⟨by decide +kernel, rfl⟩
theorem d0_191 : D m0 191 (.iconst 1) 1 192 := ⟨by decide +kernel, rfl⟩
theorem d0_192 : D m0 192 (.invokestatic 25) 3 195 := ⟨by decide +kernel, rfl⟩
theorem d0_195 : D m0 195 (.iadd) 1 196 := ⟨by decide +kernel, rfl⟩
theorem d0_196 : D m0 196 (.iconst 3) 1 197 := ⟨by decide +kernel, rfl⟩
theorem d0_197 : D m0 197 (.irem) 1 198 := ⟨by decide +kernel, rfl⟩
theorem d0_198 : D m0 198 (.istore 19) 2 200 := ⟨by decide +kernel, rfl⟩
theorem d0_200 : D m0 200 (.lload 10) 2 202 := ⟨by decide +kernel, rfl⟩
theorem d0_202 : D m0 202 (.lload 12) 2 204 := ⟨by decide +kernel, rfl⟩
theorem d0_204 : D m0 204 (.lload 14) 2 206 := ⟨by decide +kernel, rfl⟩
theorem d0_206 : D m0 206 (.iconst 2) 1 207 := ⟨by decide +kernel, rfl⟩
theorem d0_207 : D m0 207 (.iconst 0) 1 208 := ⟨by decide +kernel, rfl⟩
theorem d0_208 : D m0 208 (.invokestatic 29) 3 211 := ⟨by decide +kernel, rfl⟩
theorem d0_211 : D m0 211 (.bipush 6) 2 213 := ⟨by decide +kernel, rfl⟩
theorem d0_213 : D m0 213 (.lshl) 1 214 := ⟨by decide +kernel, rfl⟩
theorem d0_214 : D m0 214 (.lload 10) 2 216 := ⟨by decide +kernel, rfl⟩
theorem d0_216 : D m0 216 (.lload 12) 2 218 := ⟨by decide +kernel, rfl⟩
theorem d0_218 : D m0 218 (.lload 14) 2 220 := ⟨by decide +kernel, rfl⟩
theorem d0_220 : D m0 220 (.iconst 1) 1 221 := ⟨by decide +kernel, rfl⟩
theorem d0_221 : D m0 221 (.iload 18) 2 223 := ⟨by decide +kernel, rfl⟩
theorem d0_223 : D m0 223 (.invokestatic 29) 3 226 := ⟨by decide +kernel, rfl⟩
theorem d0_226 : D m0 226 (.iconst 3) 1 227 := ⟨by decide +kernel, rfl⟩
theorem d0_227 : D m0 227 (.lshl) 1 228 := ⟨by decide +kernel, rfl⟩
theorem d0_228 : D m0 228 (.lor) 1 229 := ⟨by decide +kernel, rfl⟩
theorem d0_229 : D m0 229 (.lload 10) 2 231 := ⟨by decide +kernel, rfl⟩
theorem d0_231 : D m0 231 (.lload 12) 2 233 := ⟨by decide +kernel, rfl⟩
theorem d0_233 : D m0 233 (.lload 14) 2 235 := ⟨by decide +kernel, rfl⟩
theorem d0_235 : D m0 235 (.iconst 0) 1 236 := ⟨by decide +kernel, rfl⟩
theorem d0_236 : D m0 236 (.iload 19) 2 238 := ⟨by decide +kernel, rfl⟩
theorem d0_238 : D m0 238 (.invokestatic 29) 3 241 := ⟨by decide +kernel, rfl⟩
theorem d0_241 : D m0 241 (.lor) 1 242 := ⟨by decide +kernel, rfl⟩
theorem d0_242 : D m0 242 (.bipush 55) 2 244 := ⟨by decide +kernel, rfl⟩
theorem d0_244 : D m0 244 (.lshl) 1 245 := ⟨by decide +kernel, rfl⟩
theorem d0_245 : D m0 245 (.lstore 20) 2 247 := ⟨by decide +kernel, rfl⟩
theorem d0_247 : D m0 247 (.aload 17) 2 249 := ⟨by decide +kernel, rfl⟩
theorem d0_249 : D m0 249 (.arraylength) 1 250 := ⟨by decide +kernel, rfl⟩
theorem d0_250 : D m0 250 (.iconst 1) 1 251 := ⟨by decide +kernel, rfl⟩
theorem d0_251 : DB m0 251 (.if_icmp .ne 17) 17 254 268 := ⟨by decide +kernel, rfl, by decide, by decide⟩
theorem d0_254 : D m0 254 (.aload 17) 2 256 := ⟨by decide +kernel, rfl⟩
theorem d0_256 : D m0 256 (.iconst 0) 1 257 := ⟨by decide +kernel, rfl⟩
theorem d0_257 : D m0 257 (.laload) 1 258 := ⟨by decide +kernel, rfl⟩
theorem d0_258 : D m0 258 (.lload 20) 2 260 := ⟨by decide +kernel, rfl⟩
theorem d0_260 : D m0 260 (.lcmp) 1 261 := ⟨by decide +kernel, rfl⟩
theorem d0_261 : DB m0 261 (.ifCond .ne 7) 7 264 268 := ⟨by decide +kernel, rfl, by decide, by decide⟩
theorem d0_264 : D m0 264 (.iconst 1) 1 265 := ⟨by decide +kernel, rfl⟩
theorem d0_265 : DB m0 265 (.goto 4) 4 268 269 := ⟨by decide +kernel, rfl, by decide, by decide⟩
theorem d0_268 : D m0 268 (.iconst 0) 1 269 := ⟨by decide +kernel, rfl⟩
theorem d0_269 : D m0 269 (.ireturn) 1 270 := ⟨by decide +kernel, rfl⟩
theorem d1_0 : D m1 0 (.aload_n 0) 1 1 := ⟨by decide +kernel, rfl⟩
theorem d1_1 : D m1 1 (.invokespecial 1) 3 4 := ⟨by decide +kernel, rfl⟩
theorem d1_4 : D m1 4 (.iload_n 1) 1 5 := ⟨by decide +kernel, rfl⟩
theorem d1_5 : D m1 5 (.iconst 1) 1 6 := ⟨by decide +kernel, rfl⟩
theorem d1_6 : DB m1 6 (.if_icmp .lt 13) 13 9 19 := ⟨by decide +kernel, rfl, by decide, by decide⟩
theorem d1_9 : D m1 9 (.iload_n 2) 1 10 := ⟨by decide +kernel, rfl⟩
theorem d1_10 : DB m1 10 (.ifCond .lt 9) 9 13 19 := ⟨by decide +kernel, rfl, by decide, by decide⟩
theorem d1_13 : D m1 13 (.iload_n 2) 1 14 := ⟨by decide +kernel, rfl⟩
theorem d1_14 : D m1 14 (.bipush 64) 2 16 := ⟨by decide +kernel, rfl⟩
theorem d1_16 : DB m1 16 (.if_icmp .le 18) 18 19 34 := ⟨by decide +kernel, rfl, by decide, by decide⟩
theorem d1_19 : D m1 19 (.new 9) 3 22 := ⟨by decide +kernel, rfl⟩
theorem d1_22 : D m1 22 (.dup) 1 23 := ⟨by decide +kernel, rfl⟩
theorem d1_23 : D m1 23 (.iload_n 1) 1 24 := ⟨by decide +kernel, rfl⟩
theorem d1_24 : D m1 24 (.iload_n 2) 1 25 := ⟨by decide +kernel, rfl⟩
theorem d1_30 : D m1 30 (.invokespecial 15) 3 33 := ⟨by decide +kernel, rfl⟩
theorem d1_33 : D m1 33 (.athrow) 1 34 := ⟨by decide +kernel, rfl⟩
theorem d1_34 : D m1 34 (.aload_n 0) 1 35 := ⟨by decide +kernel, rfl⟩
theorem d1_35 : D m1 35 (.iload_n 1) 1 36 := ⟨by decide +kernel, rfl⟩
theorem d1_36 : D m1 36 (.putfield 18) 3 39 := ⟨by decide +kernel, rfl⟩
theorem d1_39 : D m1 39 (.aload_n 0) 1 40 := ⟨by decide +kernel, rfl⟩
theorem d1_40 : D m1 40 (.iload_n 2) 1 41 := ⟨by decide +kernel, rfl⟩
theorem d1_41 : D m1 41 (.putfield 24) 3 44 := ⟨by decide +kernel, rfl⟩
theorem d1_44 : D m1 44 (.aload_n 0) 1 45 := ⟨by decide +kernel, rfl⟩
theorem d1_45 : D m1 45 (.iload_n 1) 1 46 := ⟨by decide +kernel, rfl⟩
theorem d1_46 : D m1 46 (.i2l) 1 47 := ⟨by decide +kernel, rfl⟩
theorem d1_47 : D m1 47 (.iload_n 2) 1 48 := ⟨by decide +kernel, rfl⟩
theorem d1_48 : D m1 48 (.i2l) 1 49 := ⟨by decide +kernel, rfl⟩
theorem d1_49 : D m1 49 (.lmul) 1 50 := ⟨by decide +kernel, rfl⟩
theorem d1_50 : D m1 50 (.ldc2_w 27) 3 53 := ⟨by decide +kernel, rfl⟩
theorem d1_53 : D m1 53 (.ladd) 1 54 := ⟨by decide +kernel, rfl⟩
theorem d1_54 : D m1 54 (.lconst 1) 1 55 := ⟨by decide +kernel, rfl⟩
theorem d1_55 : D m1 55 (.lsub) 1 56 := ⟨by decide +kernel, rfl⟩
theorem d1_56 : D m1 56 (.ldc2_w 27) 3 59 := ⟨by decide +kernel, rfl⟩
theorem d1_59 : D m1 59 (.ldiv) 1 60 := ⟨by decide +kernel, rfl⟩
theorem d1_60 : D m1 60 (.l2i) 1 61 := ⟨by decide +kernel, rfl⟩
theorem d1_61 : D m1 61 (.putfield 29) 3 64 := ⟨by decide +kernel, rfl⟩
theorem d1_64 : D m1 64 (.return_) 1 65 := ⟨by decide +kernel, rfl⟩
theorem d3_0 : D m3 0 (.aload_n 0) 1 1 := ⟨by decide +kernel, rfl⟩
theorem d3_1 : D m3 1 (.getfield 29) 3 4 := ⟨by decide +kernel, rfl⟩
theorem d3_4 : D m3 4 (.newarray .long) 2 6 := ⟨by decide +kernel, rfl⟩
theorem d3_6 : D m3 6 (.astore_n 2) 1 7 := ⟨by decide +kernel, rfl⟩
theorem d3_7 : D m3 7 (.lconst 0) 1 8 := ⟨by decide +kernel, rfl⟩
theorem d3_8 : D m3 8 (.lstore_n 3) 1 9 := ⟨by decide +kernel, rfl⟩
theorem d3_9 : D m3 9 (.iconst 0) 1 10 := ⟨by decide +kernel, rfl⟩
theorem d3_10 : D m3 10 (.istore 5) 2 12 := ⟨by decide +kernel, rfl⟩
theorem d3_12 : D m3 12 (.iconst 0) 1 13 := ⟨by decide +kernel, rfl⟩
theorem d3_13 : D m3 13 (.istore 6) 2 15 := ⟨by decide +kernel, rfl⟩
theorem d3_15 : D m3 15 (.iconst 0) 1 16 := ⟨by decide +kernel, rfl⟩
theorem d3_16 : D m3 16 (.istore 7) 2 18 := ⟨by decide +kernel, rfl⟩
theorem d3_18 : D m3 18 (.aload_n 0) 1 19 := ⟨by decide +kernel, rfl⟩
theorem d3_19 : D m3 19 (.getfield 24) 3 22 := ⟨by decide +kernel, rfl⟩
theorem d3_22 : D m3 22 (.iconst 1) 1 23 := ⟨by decide +kernel, rfl⟩
theorem d3_23 : D m3 23 (.isub) 1 24 := ⟨by decide +kernel, rfl⟩
theorem d3_24 : D m3 24 (.istore 8) 2 26 := ⟨by decide +kernel, rfl⟩
theorem d3_26 : D m3 26 (.iload 8) 2 28 := ⟨by decide +kernel, rfl⟩
theorem d3_28 : DB m3 28 (.ifCond .lt 127) 127 31 155 := ⟨by decide +kernel, rfl, by decide, by decide⟩
theorem d3_31 : D m3 31 (.iconst 0) 1 32 := ⟨by decide +kernel, rfl⟩
theorem d3_32 : D m3 32 (.istore 9) 2 34 := ⟨by decide +kernel, rfl⟩
theorem d3_34 : D m3 34 (.iload 7) 2 36 := ⟨by decide +kernel, rfl⟩
theorem d3_36 : D m3 36 (.istore 10) 2 38 := ⟨by decide +kernel, rfl⟩
theorem d3_38 : D m3 38 (.iconst 0) 1 39 := ⟨by decide +kernel, rfl⟩
theorem d3_39 : D m3 39 (.istore 11) 2 41 := ⟨by decide +kernel, rfl⟩
theorem d3_41 : D m3 41 (.iload 11) 2 43 := ⟨by decide +kernel, rfl⟩
theorem d3_43 : D m3 43 (.aload_n 0) 1 44 := ⟨by decide +kernel, rfl⟩
theorem d3_44 : D m3 44 (.getfield 18) 3 47 := ⟨by decide +kernel, rfl⟩
theorem d3_47 : DB m3 47 (.if_icmp .ge 77) 77 50 124 := ⟨by decide +kernel, rfl, by decide, by decide⟩
theorem d3_50 : D m3 50 (.aload_n 1) 1 51 := ⟨by decide +kernel, rfl⟩
theorem d3_51 : D m3 51 (.iload 10) 2 53 := ⟨by decide +kernel, rfl⟩
theorem d3_53 : D m3 53 (.laload) 1 54 := ⟨by decide +kernel, rfl⟩
theorem d3_54 : D m3 54 (.iload 8) 2 56 := ⟨by decide +kernel, rfl⟩
theorem d3_56 : D m3 56 (.lushr) 1 57 := ⟨by decide +kernel, rfl⟩
theorem d3_57 : D m3 57 (.lconst 1) 1 58 := ⟨by decide +kernel, rfl⟩
theorem d3_58 : D m3 58 (.land) 1 59 := ⟨by decide +kernel, rfl⟩
theorem d3_59 : D m3 59 (.lstore 12) 2 61 := ⟨by decide +kernel, rfl⟩
theorem d3_61 : D m3 61 (.lload_n 3) 1 62 := ⟨by decide +kernel, rfl⟩
theorem d3_62 : D m3 62 (.iconst 1) 1 63 := ⟨by decide +kernel, rfl⟩
theorem d3_63 : D m3 63 (.lshl) 1 64 := ⟨by decide +kernel, rfl⟩
theorem d3_64 : D m3 64 (.lload 12) 2 66 := ⟨by decide +kernel, rfl⟩
theorem d3_66 : D m3 66 (.lor) 1 67 := ⟨by decide +kernel, rfl⟩
theorem d3_67 : D m3 67 (.lstore_n 3) 1 68 := ⟨by decide +kernel, rfl⟩
theorem d3_68 : D m3 68 (.iinc 5 1) 3 71 := ⟨by decide +kernel, rfl⟩
theorem d3_71 : D m3 71 (.iload 5) 2 73 := ⟨by decide +kernel, rfl⟩
theorem d3_73 : D m3 73 (.bipush 64) 2 75 := ⟨by decide +kernel, rfl⟩
theorem d3_75 : DB m3 75 (.if_icmp .ne 14) 14 78 89 := ⟨by decide +kernel, rfl, by decide, by decide⟩
theorem d3_78 : D m3 78 (.aload_n 2) 1 79 := ⟨by decide +kernel, rfl⟩
theorem d3_79 : D m3 79 (.iload 6) 2 81 := ⟨by decide +kernel, rfl⟩
theorem d3_81 : D m3 81 (.iinc 6 1) 3 84 := ⟨by decide +kernel, rfl⟩
theorem d3_84 : D m3 84 (.lload_n 3) 1 85 := ⟨by decide +kernel, rfl⟩
theorem d3_85 : D m3 85 (.lastore) 1 86 := ⟨by decide +kernel, rfl⟩
theorem d3_86 : D m3 86 (.iconst 0) 1 87 := ⟨by decide +kernel, rfl⟩
theorem d3_87 : D m3 87 (.istore 5) 2 89 := ⟨by decide +kernel, rfl⟩
theorem d3_89 : D m3 89 (.iload 9) 2 91 := ⟨by decide +kernel, rfl⟩
theorem d3_91 : D m3 91 (.lload 12) 2 93 := ⟨by decide +kernel, rfl⟩
theorem d3_93 : D m3 93 (.l2i) 1 94 := ⟨by decide +kernel, rfl⟩
theorem d3_94 : D m3 94 (.iadd) 1 95 := ⟨by decide +kernel, rfl⟩
theorem d3_95 : D m3 95 (.istore 9) 2 97 := ⟨by decide +kernel, rfl⟩
theorem d3_97 : D m3 97 (.iload 10) 2 99 := ⟨by decide +kernel, rfl⟩
theorem d3_99 : D m3 99 (.iconst 1) 1 100 := ⟨by decide +kernel, rfl⟩
theorem d3_100 : D m3 100 (.iadd) 1 101 := ⟨by decide +kernel, rfl⟩
theorem d3_101 : D m3 101 (.aload_n 0) 1 102 := ⟨by decide +kernel, rfl⟩
theorem d3_102 : D m3 102 (.getfield 18) 3 105 := ⟨by decide +kernel, rfl⟩
theorem d3_105 : DB m3 105 (.if_icmp .ne 7) 7 108 112 := ⟨by decide +kernel, rfl, by decide, by decide⟩
theorem d3_108 : D m3 108 (.iconst 0) 1 109 := ⟨by decide +kernel, rfl⟩
theorem d3_109 : DB m3 109 (.goto 7) 7 112 116 := ⟨by decide +kernel, rfl, by decide, by decide⟩
theorem d3_112 : D m3 112 (.iload 10) 2 114 := ⟨by decide +kernel, rfl⟩
theorem d3_114 : D m3 114 (.iconst 1) 1 115 := ⟨by decide +kernel, rfl⟩
theorem d3_115 : D m3 115 (.iadd) 1 116 := ⟨by decide +kernel, rfl⟩
theorem d3_116 : D m3 116 (.istore 10) 2 118 := ⟨by decide +kernel, rfl⟩
theorem d3_118 : D m3 118 (.iinc 11 1) 3 121 := ⟨by decide +kernel, rfl⟩
theorem d3_121 : DB m3 121 (.goto (-80)) (-80) 124 41 := ⟨by decide +kernel, rfl, by decide, by decide⟩
theorem d3_124 : D m3 124 (.iload 7) 2 126 := ⟨by decide +kernel, rfl⟩
theorem d3_126 : D m3 126 (.iload 9) 2 128 := ⟨by decide +kernel, rfl⟩
theorem d3_128 : D m3 128 (.iadd) 1 129 := ⟨by decide +kernel, rfl⟩
theorem d3_129 : D m3 129 (.istore 7) 2 131 := ⟨by decide +kernel, rfl⟩
theorem d3_131 : D m3 131 (.iload 7) 2 133 := ⟨by decide +kernel, rfl⟩
theorem d3_133 : D m3 133 (.aload_n 0) 1 134 := ⟨by decide +kernel, rfl⟩
theorem d3_134 : D m3 134 (.getfield 18) 3 137 := ⟨by decide +kernel, rfl⟩
theorem d3_137 : DB m3 137 (.if_icmp .lt 12) 12 140 149 := ⟨by decide +kernel, rfl, by decide, by decide⟩
theorem d3_140 : D m3 140 (.iload 7) 2 142 := ⟨by decide +kernel, rfl⟩
theorem d3_142 : D m3 142 (.aload_n 0) 1 143 := ⟨by decide +kernel, rfl⟩
theorem d3_143 : D m3 143 (.getfield 18) 3 146 := ⟨by decide +kernel, rfl⟩
theorem d3_146 : D m3 146 (.isub) 1 147 := ⟨by decide +kernel, rfl⟩
theorem d3_147 : D m3 147 (.istore 7) 2 149 := ⟨by decide +kernel, rfl⟩
theorem d3_149 : D m3 149 (.iinc 8 (-1)) 3 152 := ⟨by decide +kernel, rfl⟩
theorem d3_152 : DB m3 152 (.goto (-126)) (-126) 155 26 := ⟨by decide +kernel, rfl, by decide, by decide⟩
theorem d3_155 : D m3 155 (.iload 5) 2 157 := ⟨by decide +kernel, rfl⟩
theorem d3_157 : DB m3 157 (.ifCond .le 14) 14 160 171 := ⟨by decide +kernel, rfl, by decide, by decide⟩
theorem d3_160 : D m3 160 (.aload_n 2) 1 161 := ⟨by decide +kernel, rfl⟩
theorem d3_161 : D m3 161 (.iload 6) 2 163 := ⟨by decide +kernel, rfl⟩
theorem d3_163 : D m3 163 (.lload_n 3) 1 164 := ⟨by decide +kernel, rfl⟩
theorem d3_164 : D m3 164 (.bipush 64) 2 166 := ⟨by decide +kernel, rfl⟩
theorem d3_166 : D m3 166 (.iload 5) 2 168 := ⟨by decide +kernel, rfl⟩
theorem d3_168 : D m3 168 (.isub) 1 169 := ⟨by decide +kernel, rfl⟩
theorem d3_169 : D m3 169 (.lshl) 1 170 := ⟨by decide +kernel, rfl⟩
theorem d3_170 : D m3 170 (.lastore) 1 171 := ⟨by decide +kernel, rfl⟩
theorem d3_171 : D m3 171 (.aload_n 2) 1 172 := ⟨by decide +kernel, rfl⟩
theorem d3_172 : D m3 172 (.areturn) 1 173 := ⟨by decide +kernel, rfl⟩
theorem d4_0 : D m4 0 (.lload_n 0) 1 1 := ⟨by decide +kernel, rfl⟩
theorem d4_1 : D m4 1 (.iload 6) 2 3 := ⟨by decide +kernel, rfl⟩
theorem d4_3 : D m4 3 (.invokestatic 7) 3 6 := ⟨by decide +kernel, rfl⟩
theorem d4_6 : D m4 6 (.lload_n 2) 1 7 := ⟨by decide +kernel, rfl⟩
theorem d4_7 : D m4 7 (.iload 6) 2 9 := ⟨by decide +kernel, rfl⟩
theorem d4_9 : D m4 9 (.invokestatic 7) 3 12 := ⟨by decide +kernel, rfl⟩
theorem d4_12 : D m4 12 (.iadd) 1 13 := ⟨by decide +kernel, rfl⟩
theorem d4_13 : D m4 13 (.lload 4) 2 15 := ⟨by decide +kernel, rfl⟩
theorem d4_15 : D m4 15 (.iload 6) 2 17 := ⟨by decide +kernel, rfl⟩
theorem d4_17 : D m4 17 (.invokestatic 7) 3 20 := ⟨by decide +kernel, rfl⟩
theorem d4_20 : D m4 20 (.iadd) 1 21 := ⟨by decide +kernel, rfl⟩
theorem d4_21 : D m4 21 (.ireturn) 1 22 := ⟨by decide +kernel, rfl⟩
theorem d5_0 : D m5 0 (.lload_n 0) 1 1 := ⟨by decide +kernel, rfl⟩
theorem d5_1 : D m5 1 (.iload_n 2) 1 2 := ⟨by decide +kernel, rfl⟩
theorem d5_2 : D m5 2 (.lushr) 1 3 := ⟨by decide +kernel, rfl⟩
theorem d5_3 : D m5 3 (.lconst 1) 1 4 := ⟨by decide +kernel, rfl⟩
theorem d5_4 : D m5 4 (.land) 1 5 := ⟨by decide +kernel, rfl⟩
theorem d5_5 : D m5 5 (.l2i) 1 6 := ⟨by decide +kernel, rfl⟩
theorem d5_6 : D m5 6 (.ireturn) 1 7 := ⟨by decide +kernel, rfl⟩
theorem d6_0 : D m6 0 (.lload_n 0) 1 1 := ⟨by decide +kernel, rfl⟩
theorem d6_1 : D m6 1 (.iload 6) 2 3 := ⟨by decide +kernel, rfl⟩
theorem d6_3 : D m6 3 (.invokestatic 7) 3 6 := ⟨by decide +kernel, rfl⟩
theorem d6_6 : D m6 6 (.i2l) 1 7 := ⟨by decide +kernel, rfl⟩
theorem d6_7 : D m6 7 (.lstore 8) 2 9 := ⟨by decide +kernel, rfl⟩
theorem d6_9 : D m6 9 (.lload_n 2) 1 10 := ⟨by decide +kernel, rfl⟩
theorem d6_10 : D m6 10 (.iload 6) 2 12 := ⟨by decide +kernel, rfl⟩
theorem d6_12 : D m6 12 (.invokestatic 7) 3 15 := ⟨by decide +kernel, rfl⟩
theorem d6_15 : D m6 15 (.i2l) 1 16 := ⟨by decide +kernel, rfl⟩
theorem d6_16 : D m6 16 (.lstore 10) 2 18 := ⟨by decide +kernel, rfl⟩
theorem d6_18 : D m6 18 (.lload 4) 2 20 := ⟨by decide +kernel, rfl⟩
theorem d6_20 : D m6 20 (.iload 6) 2 22 := ⟨by decide +kernel, rfl⟩
theorem d6_22 : D m6 22 (.invokestatic 7) 3 25 := ⟨by decide +kernel, rfl⟩
theorem d6_25 : D m6 25 (.i2l) 1 26 := ⟨by decide +kernel, rfl⟩
theorem d6_26 : D m6 26 (.lstore 12) 2 28 := ⟨by decide +kernel, rfl⟩
theorem d6_28 : D m6 28 (.iload 7) 2 30 := ⟨by decide +kernel, rfl⟩
theorem d6_30 : DB m6 30 (.ifCond .ne 16) 16 33 46 := ⟨by decide +kernel, rfl, by decide, by decide⟩
theorem d6_33 : D m6 33 (.lload 8) 2 35 := ⟨by decide +kernel, rfl⟩
theorem d6_35 : D m6 35 (.iconst 2) 1 36 := ⟨by decide +kernel, rfl⟩
theorem d6_36 : D m6 36 (.lshl) 1 37 := ⟨by decide +kernel, rfl⟩
theorem d6_37 : D m6 37 (.lload 10) 2 39 := ⟨by decide +kernel, rfl⟩
theorem d6_39 : D m6 39 (.iconst 1) 1 40 := ⟨by decide +kernel, rfl⟩
theorem d6_40 : D m6 40 (.lshl) 1 41 := ⟨by decide +kernel, rfl⟩
theorem d6_41 : D m6 41 (.lor) 1 42 := ⟨by decide +kernel, rfl⟩
theorem d6_42 : D m6 42 (.lload 12) 2 44 := ⟨by decide +kernel, rfl⟩
theorem d6_44 : D m6 44 (.lor) 1 45 := ⟨by decide +kernel, rfl⟩
theorem d6_45 : D m6 45 (.lreturn) 1 46 := ⟨by decide +kernel, rfl⟩
theorem d6_46 : D m6 46 (.iload 7) 2 48 := ⟨by decide +kernel, rfl⟩
theorem d6_48 : D m6 48 (.iconst 1) 1 49 := ⟨by decide +kernel, rfl⟩
theorem d6_49 : DB m6 49 (.if_icmp .ne 16) 16 52 65 := ⟨by decide +kernel, rfl, by decide, by decide⟩
theorem d6_52 : D m6 52 (.lload 10) 2 54 := ⟨by decide +kernel, rfl⟩
theorem d6_54 : D m6 54 (.iconst 2) 1 55 := ⟨by decide +kernel, rfl⟩
theorem d6_55 : D m6 55 (.lshl) 1 56 := ⟨by decide +kernel, rfl⟩
theorem d6_56 : D m6 56 (.lload 12) 2 58 := ⟨by decide +kernel, rfl⟩
theorem d6_58 : D m6 58 (.iconst 1) 1 59 := ⟨by decide +kernel, rfl⟩
theorem d6_59 : D m6 59 (.lshl) 1 60 := ⟨by decide +kernel, rfl⟩
theorem d6_60 : D m6 60 (.lor) 1 61 := ⟨by decide +kernel, rfl⟩
theorem d6_61 : D m6 61 (.lload 8) 2 63 := ⟨by decide +kernel, rfl⟩
theorem d6_63 : D m6 63 (.lor) 1 64 := ⟨by decide +kernel, rfl⟩
theorem d6_64 : D m6 64 (.lreturn) 1 65 := ⟨by decide +kernel, rfl⟩
theorem d6_65 : D m6 65 (.lload 12) 2 67 := ⟨by decide +kernel, rfl⟩
theorem d6_67 : D m6 67 (.iconst 2) 1 68 := ⟨by decide +kernel, rfl⟩
theorem d6_68 : D m6 68 (.lshl) 1 69 := ⟨by decide +kernel, rfl⟩
theorem d6_69 : D m6 69 (.lload 8) 2 71 := ⟨by decide +kernel, rfl⟩
theorem d6_71 : D m6 71 (.iconst 1) 1 72 := ⟨by decide +kernel, rfl⟩
theorem d6_72 : D m6 72 (.lshl) 1 73 := ⟨by decide +kernel, rfl⟩
theorem d6_73 : D m6 73 (.lor) 1 74 := ⟨by decide +kernel, rfl⟩
theorem d6_74 : D m6 74 (.lload 10) 2 76 := ⟨by decide +kernel, rfl⟩
theorem d6_76 : D m6 76 (.lor) 1 77 := ⟨by decide +kernel, rfl⟩
theorem d6_77 : D m6 77 (.lreturn) 1 78 := ⟨by decide +kernel, rfl⟩
theorem pn0 : plainName "com/example/reshelve/reshelve/service/sort/ZCurveIndexPinLaw" = true := by first | (simp [plainName, overriddenIn]; done) | decide +kernel
theorem pn1 : plainName "com/example/reshelve/reshelve/service/sort/ZCurve" = true := by first | (simp [plainName, overriddenIn]; done) | decide +kernel
theorem pd1 : parseMethodDescriptor "(II)V" = some ⟨[.int, .int], none⟩ := by decide +kernel
theorem ok1 {Z : State} {a0 : Array Value} (hw : ∀ d ∈ tables_1, d.before a0 Z = true) : OkM a0 Z m1 2 := ⟨hw _ (wd 6 rfl), hw _ (wd 3 rfl), plainFor_of_name pn1, ⟨by decide, by decide⟩, arity pd1 rfl⟩
theorem pd3 : parseMethodDescriptor "([J)[J" = some ⟨[(.array .long)], some (.array .long)⟩ := by decide +kernel
theorem ok3 {Z : State} {a0 : Array Value} (hw : ∀ d ∈ tables_1, d.before a0 Z = true) : OkM a0 Z m3 1 := ⟨hw _ (wd 22 rfl), hw _ (wd 3 rfl), plainFor_of_name pn1, ⟨by decide, by decide⟩, arity pd3 rfl⟩
theorem pd4 : parseMethodDescriptor "(JJJI)I" = some ⟨[.long, .long, .long, .int], some .int⟩ := by decide +kernel
theorem ok4 {Z : State} {a0 : Array Value} (hw : ∀ d ∈ tables_1, d.before a0 Z = true) : OkM a0 Z m4 4 := ⟨hw _ (wd 27 rfl), hw _ (wd 26 rfl), plainFor_of_name pn0, ⟨by decide, by decide⟩, arity pd4 rfl⟩
theorem pd5 : parseMethodDescriptor "(JI)I" = some ⟨[.long, .int], some .int⟩ := by decide +kernel
theorem ok5 {Z : State} {a0 : Array Value} (hw : ∀ d ∈ tables_1, d.before a0 Z = true) : OkM a0 Z m5 2 := ⟨hw _ (wd 30 rfl), hw _ (wd 26 rfl), plainFor_of_name pn0, ⟨by decide, by decide⟩, arity pd5 rfl⟩
theorem pd6 : parseMethodDescriptor "(JJJII)J" = some ⟨[.long, .long, .long, .int, .int], some .long⟩ := by decide +kernel
theorem ok6 {Z : State} {a0 : Array Value} (hw : ∀ d ∈ tables_1, d.before a0 Z = true) : OkM a0 Z m6 5 := ⟨hw _ (wd 33 rfl), hw _ (wd 26 rfl), plainFor_of_name pn0, ⟨by decide, by decide⟩, arity pd6 rfl⟩
def fs0 : List (Key × Value) := [(("com/example/reshelve/reshelve/service/sort/ZCurve", "dimensions", "I"), .int 0), (("com/example/reshelve/reshelve/service/sort/ZCurve", "bits", "I"), .int 0), (("com/example/reshelve/reshelve/service/sort/ZCurve", "words", "I"), .int 0)]
theorem okc0 {Z : State} {a0 : Array Value} (hw : ∀ d ∈ tables_1, d.before a0 Z = true) : OkC a0 Z "com/example/reshelve/reshelve/service/sort/ZCurve" 3 fs0 := by
  refine ⟨hw _ (wd 2 rfl), hw _ (wd 3 rfl), fun q hq => ?_, by simp [fs0]⟩
  simp only [fs0, List.mem_cons, List.not_mem_nil, or_false] at hq
  rcases hq with rfl | rfl | rfl
  · exact ⟨.int, Or.inr (hw _ (wd 11 rfl)), by decide, rfl⟩
  · exact ⟨.int, Or.inr (hw _ (wd 13 rfl)), by decide, rfl⟩
  · exact ⟨.int, Or.inr (hw _ (wd 16 rfl)), by decide, rfl⟩
theorem own_i {a : Nat} (h : a < 1000) : (Int32.ofNat a).toInt = a := Int32.toInt_ofNat_of_lt (by omega)
theorem own_idx (a : Nat) (h : a < 1000) : ¬ Int32.ofNat a < 0 ∧ (Int32.ofNat a).toNatClampNeg = a := by
  have e := own_i h
  refine ⟨?_, ?_⟩
  · rw [Int32.lt_iff_toInt_lt, e]; have : (0 : Int32).toInt = 0 := rfl; omega
  · show (Int32.ofNat a).toInt.toNat = a; rw [e] <;> rfl
theorem own_add (a b : Nat) : Int32.ofNat a + Int32.ofNat b = Int32.ofNat (a + b) := (Int32.ofNat_add a b).symm
def own_w (b : Nat) : Nat := if b = 0 then 0 else 1
theorem own_words : ∀ b : Fin 65, ((((1 : Int32).toInt64 * (Int32.ofNat b.1).toInt64 + 64 - 1) / 64).toInt32 : Int32) = Int32.ofNat (own_w b.1) := by decide +kernel
def own_top (c : Int64) (j : Nat) : Int64 := Int64.ofBitVec (c.toBitVec >>> j)
theorem own_top_bit (c : Int64) (j t : Nat) : (own_top c j).toBitVec.getLsbD t = c.toBitVec.getLsbD (j + t) := by
  show (c.toBitVec >>> j).getLsbD t = _
  rw [BitVec.getLsbD_ushiftRight]
theorem own_top0 (c : Int64) : own_top c 0 = c := bx64 fun t _ => by rw [own_top_bit, Nat.zero_add]
theorem own_and1L (y : Int64) : y &&& 1 = 0 ∨ y &&& 1 = 1 := by
  have e1 : ∀ i, (1 : Int64).toBitVec.getLsbD i = decide (i = 0) := fun i => by
    have : (1 : Int64) = Int64.ofNat 1 := rfl
    rw [this, litL_bit]
    cases i with
    | zero => rfl
    | succ j => simp [Nat.testBit_succ]
  have e0 : ∀ i, (0 : Int64).toBitVec.getLsbD i = false := fun i => by show (0#64).getLsbD i = false; simp
  cases h : y.toBitVec.getLsbD 0
  · left; apply bx64; intro i hi; rw [andL_bit, e1, e0]
    by_cases q : i = 0
    · subst q; rw [h] <;> rfl
    · simp [q]
  · right; apply bx64; intro i hi; rw [andL_bit, e1]
    by_cases q : i = 0
    · subst q; rw [h] <;> rfl
    · simp [q]
theorem own_sh64 (b : Int32) (m : Nat) (h : b.toBitVec.toNat = m) (hm : m < 64) : (b.toInt64 &&& 63).toBitVec.toNat = m := by
  have e : b.toInt64.toBitVec.toNat = m := by
    have hn : b.toBitVec.msb = false := by rw [BitVec.msb_eq_decide, h]; exact decide_eq_false (by omega)
    show (b.toBitVec.signExtend 64).toNat = m
    rw [BitVec.signExtend_eq_setWidth_of_msb_false hn, BitVec.toNat_setWidth, h]
    omega
  show (b.toInt64.toBitVec &&& 63#64).toNat = m
  rw [BitVec.toNat_and, e]
  show m &&& (2 ^ 6 - 1) = m
  rw [Nat.and_two_pow_sub_one_eq_mod]
  exact Nat.mod_eq_of_lt (by omega)
theorem own_natof (j : Nat) (h : j < 1000) : (Int32.ofNat j).toBitVec.toNat = j := by
  show (BitVec.ofNat 32 j).toNat = j
  rw [BitVec.toNat_ofNat]; omega
/-- one level: the word takes the bit of level j -/
theorem own_tstep (c β : Int64) (j : Nat) (hj : j < 64) (h : XT.ushrL c (Int32.ofNat j) &&& 1 = β) : own_top c (j + 1) <<< ((1 : Int32) &&& 0x3f).toInt64 ||| β = own_top c j := by
  subst h
  apply bx64
  intro t ht
  rw [orL_bit, shlL_bit (k := ((1 : Int32) &&& 0x3f).toInt64) (m := 1) (by decide) (by decide), andL_bit, ushrL_bit (own_sh64 _ j (own_natof j (by omega)) hj), own_top_bit, own_top_bit]
  have e1 : (1 : Int64).toBitVec.getLsbD t = decide (t = 0) := by
    have : (1 : Int64) = Int64.ofNat 1 := rfl
    rw [this, litL_bit]
    cases t with
    | zero => rfl
    | succ j => simp [Nat.testBit_succ]
  rw [e1]
  cases t with
  | zero => simp
  | succ t => simp [ht, show j + 1 + t = j + (t + 1) by omega]
def own_res (b : Nat) (c : Int64) : List Value := if b = 0 then [] else [.long (c <<< (((64 : Int32) - Int32.ofNat b) &&& 0x3f).toInt64)]
theorem own_shl0 (c : Int64) : c <<< (((64 : Int32) - Int32.ofNat 64) &&& 0x3f).toInt64 = c := bx64 fun t ht => by
  rw [shlL_bit (m := 0) (by decide) (by decide)]; simp [ht]
theorem own_mask (v : Int64) (b : Nat) (hb : b < 64) : own_top (v &&& (((1 : Int64) <<< ((Int32.ofNat b) &&& 0x3f).toInt64) - 1)) b = 0 := by
  have e : ∀ b : Fin 64, (((1 : Int64) <<< ((Int32.ofNat b.1) &&& 0x3f).toInt64) - 1) = Int64.ofNat (2 ^ b.1 - 1) := by decide +kernel
  rw [e ⟨b, hb⟩]
  apply bx64
  intro t ht
  rw [own_top_bit, andL_bit, litL_bit, Nat.testBit_two_pow_sub_one]
  have hlt : ¬ (b + t < b) := by omega
  show (_ && (_ && decide (b + t < b))) = (0#64).getLsbD t
  rw [decide_eq_false hlt, Bool.and_false, Bool.and_false]
  simp
theorem own_top64 (v : Int64) : own_top v 64 = 0 := by
  apply bx64; intro t ht; rw [own_top_bit, BitVec.getLsbD_of_ge _ _ (by omega)]; show _ = (0#64).getLsbD t; simp
theorem own_64 (b : Nat) (hb : b ≤ 64) : ¬ (64 : Int32) < Int32.ofNat b := by
  rw [Int32.lt_iff_toInt_lt, own_i (by omega)]; have : (64 : Int32).toInt = 64 := rfl; omega
set_option maxRecDepth 65536 in
set_option maxHeartbeats 40000000 in
theorem w1 {l : Launch} {Z : State} {a0 : Array Value} {n : Nat} (hw : ∀ d ∈ tables_1, d.before a0 Z = true) (b : Nat) (hb : b ≤ 64) : W l Z n m1 0 (entryL [.ref 0, .int 1, .int (Int32.ofNat b)] 3) [] [.inl ("com/example/reshelve/reshelve/service/sort/ZCurve", [(("com/example/reshelve/reshelve/service/sort/ZCurve", "dimensions", "I"), (.int (0))), (("com/example/reshelve/reshelve/service/sort/ZCurve", "bits", "I"), (.int (0))), (("com/example/reshelve/reshelve/service/sort/ZCurve", "words", "I"), (.int (0)))])] 0 0 (Is none [.inl ("com/example/reshelve/reshelve/service/sort/ZCurve", [(("com/example/reshelve/reshelve/service/sort/ZCurve", "dimensions", "I"), (.int (1))), (("com/example/reshelve/reshelve/service/sort/ZCurve", "bits", "I"), (.int (Int32.ofNat b))), (("com/example/reshelve/reshelve/service/sort/ZCurve", "words", "I"), (.int (Int32.ofNat (own_w b))))])]) := by
  show W l Z n m1 0 [(.val (.ref 0)), (.val (.int (1))), (.val (.int (Int32.ofNat b)))] [] [.inl ("com/example/reshelve/reshelve/service/sort/ZCurve", [(("com/example/reshelve/reshelve/service/sort/ZCurve", "dimensions", "I"), (.int (0))), (("com/example/reshelve/reshelve/service/sort/ZCurve", "bits", "I"), (.int (0))), (("com/example/reshelve/reshelve/service/sort/ZCurve", "words", "I"), (.int (0)))])] 0 0 _
  refine W.aloadN d1_0 rfl rfl ?_
  refine W.initO d1_1 (hw _ (wd 7 rfl)) (hw _ (wd 8 rfl)) (hw _ (wd 9 rfl)) rfl rfl ?_
  refine W.iloadN d1_4 rfl ?_
  refine W.iconst 1 d1_5 rfl ?_
  refine W.icmp_lt d1_6 (fun h => False.elim (by revert h; decide)) (fun h6 => ?_)
  refine W.iloadN d1_9 rfl ?_
  refine W.if_lt d1_10 (fun h => False.elim ((own_idx b (by omega)).1 h)) (fun h10 => ?_)
  refine W.iloadN d1_13 rfl ?_
  refine W.bipush 64 d1_14 rfl ?_
  refine W.icmp_le d1_16 (fun h16 => ?_) (fun h => False.elim (own_64 b hb h))
  refine W.aloadN d1_34 rfl rfl ?_
  refine W.iloadN d1_35 rfl ?_
  refine W.putfield 0 d1_36 (hw _ (wd 10 rfl)) rfl rfl (Or.inr ⟨hw _ (wd 11 rfl), rfl, rfl⟩) (hw _ (wd 2 rfl)) (ty := .int) (by decide) (fun _ => rfl) (fun _ => rfl) ?_
  refine W.aloadN d1_39 rfl rfl ?_
  refine W.iloadN d1_40 rfl ?_
  refine W.putfield 1 d1_41 (hw _ (wd 12 rfl)) rfl rfl (Or.inr ⟨hw _ (wd 13 rfl), rfl, rfl⟩) (hw _ (wd 2 rfl)) (ty := .int) (by decide) (fun _ => rfl) (fun _ => rfl) ?_
  refine W.aloadN d1_44 rfl rfl ?_
  refine W.iloadN d1_45 rfl ?_
  refine W.i2l d1_46 ?_
  refine W.iloadN d1_47 rfl ?_
  refine W.i2l d1_48 ?_
  refine W.lmul d1_49 ?_
  refine W.ldc2 d1_50 (hw _ (wd 14 rfl)) ?_
  refine W.ladd d1_53 ?_
  refine W.lconst 1 d1_54 rfl ?_
  refine W.lsub d1_55 ?_
  refine W.ldc2 d1_56 (hw _ (wd 14 rfl)) ?_
  refine W.ldiv d1_59 (by decide) ?_
  refine W.l2i d1_60 ?_
  refine W.putfield 2 d1_61 (hw _ (wd 15 rfl)) rfl rfl (Or.inr ⟨hw _ (wd 16 rfl), rfl, rfl⟩) (hw _ (wd 2 rfl)) (ty := .int) (by decide) (fun _ => rfl) (fun _ => rfl) ?_
  exact W.leave d1_64 rfl (by decide) (by decide) (⟨rfl, by rw [← own_words ⟨b, by omega⟩] <;> rfl⟩)
theorem own_resb {b : Nat} (c : Int64) (h : ¬ b = 0) : own_res b c = [.long (c <<< (((64 : Int32) - Int32.ofNat b) &&& 0x3f).toInt64)] := if_neg h
theorem own_wb {b : Nat} (h : ¬ b = 0) : own_w b = 1 := if_neg h
theorem own_res64 (c : Int64) : own_res 64 c = [.long c] := by rw [own_resb c (by decide), own_shl0]
theorem own_pn (b j : Nat) (h : j + 1 ≤ b) : Int32.ofNat (b - (j + 1)) + 1 = Int32.ofNat (b - j) := by
  rw [show (1 : Int32) = Int32.ofNat 1 from rfl, own_add, show b - (j + 1) + 1 = b - j by omega]
theorem own_ln (L : Int32) (j : Nat) (hj : j < 100) (h : L.toInt = ((j + 1 : Nat) : Int) - 1) : (L + (-1)).toInt = (j : Int) - 1 := by
  rw [Int32.toInt_add, h]
  have : (-1 : Int32).toInt = -1 := rfl
  rw [this]
  rw [Int.bmod_eq_of_le (by omega) (by omega)]; omega
theorem own_lj (L : Int32) (j : Nat) (hj : j < 100) (h : L.toInt = ((j + 1 : Nat) : Int) - 1) : L = Int32.ofNat j := Int32.toInt_inj.mp (by rw [h, own_i (by omega)]; omega)
set_option maxRecDepth 65536 in
set_option maxHeartbeats 40000000 in
theorem zloop {l : Launch} {Z : State} {a0 : Array Value} {n : Nat} (hw : ∀ d ∈ tables_1, d.before a0 Z = true) (b : Nat) (c : Int64) (hb : b ≤ 64) : ∀ (j : Nat) (L : Int32) (w : Int64) (y9 y10 y11 y12 y13 : Slot) (hs : (y9 = .unset ∧ y10 = .unset ∧ y11 = .unset ∧ y12 = .unset ∧ y13 = .unset) ∨ ∃ (e1 e2 e3 : Int32) (e4 : Int64), y9 = .val (.int e1) ∧ y10 = .val (.int e2) ∧ y11 = .val (.int e3) ∧ y12 = .val (.long e4) ∧ y13 = .second), L.toInt = (j : Int) - 1 → j ≤ b → b - j < 64 → w = own_top c j → W l Z n m3 26 [(.val (.ref 0)), (.val (.ref 1)), (.val (.ref 2)), (.val (.long (w))), .second, (.val (.int (Int32.ofNat (b - j)))), (.val (.int (0))), (.val (.int (0))), (.val (.int (L))), y9, y10, y11, y12, y13] [] [.inl ("com/example/reshelve/reshelve/service/sort/ZCurve", [(("com/example/reshelve/reshelve/service/sort/ZCurve", "dimensions", "I"), (.int (1))), (("com/example/reshelve/reshelve/service/sort/ZCurve", "bits", "I"), (.int (Int32.ofNat b))), (("com/example/reshelve/reshelve/service/sort/ZCurve", "words", "I"), (.int (Int32.ofNat (own_w b))))]), .inr (.long, [(.long (c))]), .inr (.long, List.replicate (own_w b) (Value.long 0))] 1 1 (Is (some (.ref 2)) [.inl ("com/example/reshelve/reshelve/service/sort/ZCurve", [(("com/example/reshelve/reshelve/service/sort/ZCurve", "dimensions", "I"), (.int (1))), (("com/example/reshelve/reshelve/service/sort/ZCurve", "bits", "I"), (.int (Int32.ofNat b))), (("com/example/reshelve/reshelve/service/sort/ZCurve", "words", "I"), (.int (Int32.ofNat (own_w b))))]), .inr (.long, [(.long (c))]), .inr (.long, own_res b c)]) := by
  intro j
  induction j with
  | zero =>
    intro L w y9 y10 y11 y12 y13 hs hL hjb hbj hw'
    have hneg : L < 0 := by rw [Int32.lt_iff_toInt_lt, hL] <;> decide
    by_cases hb0 : b = 0
    · have hz : ¬ 0 < Int32.ofNat (b - 0) := by subst hb0; decide
      refine W.iload d3_26 rfl ?_
      refine W.if_lt d3_28 (fun h28 => ?_) (fun h => False.elim (h hneg))
      refine W.iload d3_155 rfl ?_
      refine W.if_le d3_157 (fun h157 => ?_) (fun h => False.elim (hz h))
      refine W.aloadN d3_171 rfl rfl ?_
      exact W.areturn d3_172 rfl rfl rfl (by decide) (by decide) (⟨rfl, by subst hb0; rfl⟩)
    · have hpos : 0 < Int32.ofNat (b - 0) := by rw [Int32.lt_iff_toInt_lt, own_i (by omega)]; have : (0 : Int32).toInt = 0 := rfl; omega
      have hw0 : w = c := by rw [hw', own_top0]
      refine W.iload d3_26 rfl ?_
      refine W.if_lt d3_28 (fun h28 => ?_) (fun h => False.elim (h hneg))
      refine W.iload d3_155 rfl ?_
      refine W.if_le d3_157 (fun h => False.elim (h hpos)) (fun h157 => ?_)
      refine W.aloadN d3_160 rfl rfl ?_
      refine W.iload d3_161 rfl ?_
      refine W.lloadN d3_163 rfl ?_
      refine W.bipush 64 d3_164 rfl ?_
      refine W.iload d3_166 rfl ?_
      refine W.isub d3_168 ?_
      refine W.lshl d3_169 ?_
      refine W.lastore (i := 0) d3_170 rfl ⟨by decide, by decide⟩ (by rw [List.length_replicate, own_w, if_neg hb0] <;> decide) ?_
      refine W.aloadN d3_171 rfl rfl ?_
      exact W.areturn d3_172 rfl rfl rfl (by decide) (by decide) (⟨rfl, by rw [hw0, own_resb c hb0, own_wb hb0] <;> rfl⟩)
  | succ j ih =>
    intro L w y9 y10 y11 y12 y13 hs hL hjb hbj hw'
    subst hw'
    have hnn : ¬ L < 0 := by rw [Int32.lt_iff_toInt_lt, hL]; have : (0 : Int32).toInt = 0 := rfl; omega
    have hLn := own_ln L j (by omega) hL
    have hLj := own_lj L j (by omega) hL
    have hpn := own_pn b j hjb
    by_cases h64 : b - j < 64
    · have hp64 : ¬ Int32.ofNat (b - (j + 1)) + 1 = 64 := fun z => by
        rw [hpn] at z
        have e := congrArg Int32.toInt z
        rw [own_i (by omega)] at e
        have : (64 : Int32).toInt = 64 := rfl
        omega
      refine W.iload d3_26 rfl ?_
      refine W.if_lt d3_28 (fun h => False.elim (hnn h)) (fun h28 => ?_)
      refine W.iconst 0 d3_31 rfl ?_
      refine W.istore d3_32 (by rcases hs with ⟨rfl, rfl, rfl, rfl, rfl⟩ | ⟨e1, e2, e3, e4, rfl, rfl, rfl, rfl, rfl⟩ <;> rfl) ?_
      refine W.iload d3_34 rfl ?_
      refine W.istore d3_36 (by rcases hs with ⟨rfl, rfl, rfl, rfl, rfl⟩ | ⟨e1, e2, e3, e4, rfl, rfl, rfl, rfl, rfl⟩ <;> rfl) ?_
      refine W.iconst 0 d3_38 rfl ?_
      refine W.istore d3_39 (by rcases hs with ⟨rfl, rfl, rfl, rfl, rfl⟩ | ⟨e1, e2, e3, e4, rfl, rfl, rfl, rfl, rfl⟩ <;> rfl) ?_
      refine W.iload d3_41 rfl ?_
      refine W.aloadN d3_43 rfl rfl ?_
      refine W.getfield 0 d3_44 (hw _ (wd 10 rfl)) rfl rfl ?_
      refine W.icmp_ge d3_47 (fun h => False.elim (by revert h; decide)) (fun h47 => ?_)
      refine W.aloadN d3_50 rfl rfl ?_
      refine W.iload d3_51 rfl ?_
      refine W.laload (i := 0) d3_53 rfl ⟨by decide, by decide⟩ rfl ?_
      refine W.iload d3_54 rfl ?_
      refine W.lushr d3_56 ?_
      refine W.lconst 1 d3_57 rfl ?_
      refine W.land d3_58 ?_
      rcases own_and1L (XT.ushrL c L) with q | q
      · rw [q]
        refine W.lstore d3_59 (by rcases hs with ⟨rfl, rfl, rfl, rfl, rfl⟩ | ⟨e1, e2, e3, e4, rfl, rfl, rfl, rfl, rfl⟩ <;> rfl) ?_
        show WB _ l Z n m3 61 [(.val (.ref 0)), (.val (.ref 1)), (.val (.ref 2)), (.val (.long (own_top c (j + 1)))), .second, (.val (.int (Int32.ofNat (b - (j + 1))))), (.val (.int (0))), (.val (.int (0))), (.val (.int (L))), (.val (.int (0))), (.val (.int (0))), (.val (.int (0))), (.val (.long (0))), .second] [] [.inl ("com/example/reshelve/reshelve/service/sort/ZCurve", [(("com/example/reshelve/reshelve/service/sort/ZCurve", "dimensions", "I"), (.int (1))), (("com/example/reshelve/reshelve/service/sort/ZCurve", "bits", "I"), (.int (Int32.ofNat b))), (("com/example/reshelve/reshelve/service/sort/ZCurve", "words", "I"), (.int (Int32.ofNat (own_w b))))]), .inr (.long, [(.long (c))]), .inr (.long, List.replicate (own_w b) (Value.long 0))] _ _ _
        refine W.lloadN d3_61 rfl ?_
        refine W.iconst 1 d3_62 rfl ?_
        refine W.lshl d3_63 ?_
        refine W.lload d3_64 rfl ?_
        refine W.lor d3_66 ?_
        refine W.lstoreN d3_67 rfl ?_
        refine W.iinc 1 d3_68 rfl rfl ?_
        refine W.iload d3_71 rfl ?_
        refine W.bipush 64 d3_73 rfl ?_
        refine W.icmp_ne d3_75 (fun h75 => ?_) (fun h => False.elim (hp64 h))
        refine W.iload d3_89 rfl ?_
        refine W.lload d3_91 rfl ?_
        refine W.l2i d3_93 ?_
        refine W.iadd d3_94 ?_
        refine W.istore d3_95 rfl ?_
        refine W.iload d3_97 rfl ?_
        refine W.iconst 1 d3_99 rfl ?_
        refine W.iadd d3_100 ?_
        refine W.aloadN d3_101 rfl rfl ?_
        refine W.getfield 0 d3_102 (hw _ (wd 10 rfl)) rfl rfl ?_
        refine W.icmp_ne d3_105 (fun h => False.elim (by revert h; decide)) (fun h105 => ?_)
        refine W.iconst 0 d3_108 rfl ?_
        refine W.goto d3_109 ?_
        refine W.istore d3_116 rfl ?_
        show WB _ l Z n m3 118 [(.val (.ref 0)), (.val (.ref 1)), (.val (.ref 2)), (.val (.long (((own_top c (j + 1)) <<< ((1 : Int32) &&& 0x3f).toInt64) ||| 0))), .second, (.val (.int ((Int32.ofNat (b - (j + 1))) + 1))), (.val (.int (0))), (.val (.int (0))), (.val (.int (L))), (.val (.int (0 + ((0 : Int64).toInt32)))), (.val (.int (0))), (.val (.int (0))), (.val (.long (0))), .second] [] [.inl ("com/example/reshelve/reshelve/service/sort/ZCurve", [(("com/example/reshelve/reshelve/service/sort/ZCurve", "dimensions", "I"), (.int (1))), (("com/example/reshelve/reshelve/service/sort/ZCurve", "bits", "I"), (.int (Int32.ofNat b))), (("com/example/reshelve/reshelve/service/sort/ZCurve", "words", "I"), (.int (Int32.ofNat (own_w b))))]), .inr (.long, [(.long (c))]), .inr (.long, List.replicate (own_w b) (Value.long 0))] _ _ _
        refine W.iinc 1 d3_118 rfl rfl ?_
        refine W.goto d3_121 ?_
        refine W.iload d3_41 rfl ?_
        refine W.aloadN d3_43 rfl rfl ?_
        refine W.getfield 0 d3_44 (hw _ (wd 10 rfl)) rfl rfl ?_
        refine W.icmp_ge d3_47 (fun h47 => ?_) (fun h => False.elim (by revert h; decide))
        refine W.iload d3_124 rfl ?_
        refine W.iload d3_126 rfl ?_
        refine W.iadd d3_128 ?_
        refine W.istore d3_129 rfl ?_
        refine W.iload d3_131 rfl ?_
        refine W.aloadN d3_133 rfl rfl ?_
        refine W.getfield 0 d3_134 (hw _ (wd 10 rfl)) rfl rfl ?_
        refine W.icmp_lt d3_137 (fun h137 => ?_) (fun h => False.elim (by revert h; decide))
        refine W.iinc (-1) d3_149 rfl rfl ?_
        refine W.goto d3_152 ?_
        have e := own_tstep c 0 j (by omega) (by rw [← hLj]; exact q)
        rw [e, hpn]
        exact ih _ _ _ _ _ _ _ (Or.inr ⟨_, _, _, _, rfl, rfl, rfl, rfl, rfl⟩) hLn (by omega) (by omega) rfl
      · rw [q]
        refine W.lstore d3_59 (by rcases hs with ⟨rfl, rfl, rfl, rfl, rfl⟩ | ⟨e1, e2, e3, e4, rfl, rfl, rfl, rfl, rfl⟩ <;> rfl) ?_
        show WB _ l Z n m3 61 [(.val (.ref 0)), (.val (.ref 1)), (.val (.ref 2)), (.val (.long (own_top c (j + 1)))), .second, (.val (.int (Int32.ofNat (b - (j + 1))))), (.val (.int (0))), (.val (.int (0))), (.val (.int (L))), (.val (.int (0))), (.val (.int (0))), (.val (.int (0))), (.val (.long (1))), .second] [] [.inl ("com/example/reshelve/reshelve/service/sort/ZCurve", [(("com/example/reshelve/reshelve/service/sort/ZCurve", "dimensions", "I"), (.int (1))), (("com/example/reshelve/reshelve/service/sort/ZCurve", "bits", "I"), (.int (Int32.ofNat b))), (("com/example/reshelve/reshelve/service/sort/ZCurve", "words", "I"), (.int (Int32.ofNat (own_w b))))]), .inr (.long, [(.long (c))]), .inr (.long, List.replicate (own_w b) (Value.long 0))] _ _ _
        refine W.lloadN d3_61 rfl ?_
        refine W.iconst 1 d3_62 rfl ?_
        refine W.lshl d3_63 ?_
        refine W.lload d3_64 rfl ?_
        refine W.lor d3_66 ?_
        refine W.lstoreN d3_67 rfl ?_
        refine W.iinc 1 d3_68 rfl rfl ?_
        refine W.iload d3_71 rfl ?_
        refine W.bipush 64 d3_73 rfl ?_
        refine W.icmp_ne d3_75 (fun h75 => ?_) (fun h => False.elim (hp64 h))
        refine W.iload d3_89 rfl ?_
        refine W.lload d3_91 rfl ?_
        refine W.l2i d3_93 ?_
        refine W.iadd d3_94 ?_
        refine W.istore d3_95 rfl ?_
        refine W.iload d3_97 rfl ?_
        refine W.iconst 1 d3_99 rfl ?_
        refine W.iadd d3_100 ?_
        refine W.aloadN d3_101 rfl rfl ?_
        refine W.getfield 0 d3_102 (hw _ (wd 10 rfl)) rfl rfl ?_
        refine W.icmp_ne d3_105 (fun h => False.elim (by revert h; decide)) (fun h105 => ?_)
        refine W.iconst 0 d3_108 rfl ?_
        refine W.goto d3_109 ?_
        refine W.istore d3_116 rfl ?_
        show WB _ l Z n m3 118 [(.val (.ref 0)), (.val (.ref 1)), (.val (.ref 2)), (.val (.long (((own_top c (j + 1)) <<< ((1 : Int32) &&& 0x3f).toInt64) ||| 1))), .second, (.val (.int ((Int32.ofNat (b - (j + 1))) + 1))), (.val (.int (0))), (.val (.int (0))), (.val (.int (L))), (.val (.int (0 + ((1 : Int64).toInt32)))), (.val (.int (0))), (.val (.int (0))), (.val (.long (1))), .second] [] [.inl ("com/example/reshelve/reshelve/service/sort/ZCurve", [(("com/example/reshelve/reshelve/service/sort/ZCurve", "dimensions", "I"), (.int (1))), (("com/example/reshelve/reshelve/service/sort/ZCurve", "bits", "I"), (.int (Int32.ofNat b))), (("com/example/reshelve/reshelve/service/sort/ZCurve", "words", "I"), (.int (Int32.ofNat (own_w b))))]), .inr (.long, [(.long (c))]), .inr (.long, List.replicate (own_w b) (Value.long 0))] _ _ _
        refine W.iinc 1 d3_118 rfl rfl ?_
        refine W.goto d3_121 ?_
        refine W.iload d3_41 rfl ?_
        refine W.aloadN d3_43 rfl rfl ?_
        refine W.getfield 0 d3_44 (hw _ (wd 10 rfl)) rfl rfl ?_
        refine W.icmp_ge d3_47 (fun h47 => ?_) (fun h => False.elim (by revert h; decide))
        refine W.iload d3_124 rfl ?_
        refine W.iload d3_126 rfl ?_
        refine W.iadd d3_128 ?_
        refine W.istore d3_129 rfl ?_
        refine W.iload d3_131 rfl ?_
        refine W.aloadN d3_133 rfl rfl ?_
        refine W.getfield 0 d3_134 (hw _ (wd 10 rfl)) rfl rfl ?_
        refine W.icmp_lt d3_137 (fun h => False.elim (by revert h; decide)) (fun h137 => ?_)
        refine W.iload d3_140 rfl ?_
        refine W.aloadN d3_142 rfl rfl ?_
        refine W.getfield 0 d3_143 (hw _ (wd 10 rfl)) rfl rfl ?_
        refine W.isub d3_146 ?_
        refine W.istore d3_147 rfl ?_
        refine W.iinc (-1) d3_149 rfl rfl ?_
        show WB _ l Z n m3 152 [(.val (.ref 0)), (.val (.ref 1)), (.val (.ref 2)), (.val (.long (((own_top c (j + 1)) <<< ((1 : Int32) &&& 0x3f).toInt64) ||| 1))), .second, (.val (.int ((Int32.ofNat (b - (j + 1))) + 1))), (.val (.int (0))), (.val (.int ((0 + (0 + ((1 : Int64).toInt32))) - 1))), (.val (.int (L + (-1)))), (.val (.int (0 + ((1 : Int64).toInt32)))), (.val (.int (0))), (.val (.int (0 + 1))), (.val (.long (1))), .second] [] [.inl ("com/example/reshelve/reshelve/service/sort/ZCurve", [(("com/example/reshelve/reshelve/service/sort/ZCurve", "dimensions", "I"), (.int (1))), (("com/example/reshelve/reshelve/service/sort/ZCurve", "bits", "I"), (.int (Int32.ofNat b))), (("com/example/reshelve/reshelve/service/sort/ZCurve", "words", "I"), (.int (Int32.ofNat (own_w b))))]), .inr (.long, [(.long (c))]), .inr (.long, List.replicate (own_w b) (Value.long 0))] _ _ _
        refine W.goto d3_152 ?_
        have e := own_tstep c 1 j (by omega) (by rw [← hLj]; exact q)
        rw [e, hpn]
        exact ih _ _ _ _ _ _ _ (Or.inr ⟨_, _, _, _, rfl, rfl, rfl, rfl, rfl⟩) hLn (by omega) (by omega) rfl
    · have hj0 : j = 0 := by omega
      have hb64 : b = 64 := by omega
      have hp64 : Int32.ofNat (b - (j + 1)) + 1 = 64 := by rw [hpn, hj0, hb64] <;> decide
      have hlast : L + (-1) < 0 := by rw [Int32.lt_iff_toInt_lt, hLn, hj0] <;> decide
      refine W.iload d3_26 rfl ?_
      refine W.if_lt d3_28 (fun h => False.elim (hnn h)) (fun h28 => ?_)
      refine W.iconst 0 d3_31 rfl ?_
      refine W.istore d3_32 (by rcases hs with ⟨rfl, rfl, rfl, rfl, rfl⟩ | ⟨e1, e2, e3, e4, rfl, rfl, rfl, rfl, rfl⟩ <;> rfl) ?_
      refine W.iload d3_34 rfl ?_
      refine W.istore d3_36 (by rcases hs with ⟨rfl, rfl, rfl, rfl, rfl⟩ | ⟨e1, e2, e3, e4, rfl, rfl, rfl, rfl, rfl⟩ <;> rfl) ?_
      refine W.iconst 0 d3_38 rfl ?_
      refine W.istore d3_39 (by rcases hs with ⟨rfl, rfl, rfl, rfl, rfl⟩ | ⟨e1, e2, e3, e4, rfl, rfl, rfl, rfl, rfl⟩ <;> rfl) ?_
      refine W.iload d3_41 rfl ?_
      refine W.aloadN d3_43 rfl rfl ?_
      refine W.getfield 0 d3_44 (hw _ (wd 10 rfl)) rfl rfl ?_
      refine W.icmp_ge d3_47 (fun h => False.elim (by revert h; decide)) (fun h47 => ?_)
      refine W.aloadN d3_50 rfl rfl ?_
      refine W.iload d3_51 rfl ?_
      refine W.laload (i := 0) d3_53 rfl ⟨by decide, by decide⟩ rfl ?_
      refine W.iload d3_54 rfl ?_
      refine W.lushr d3_56 ?_
      refine W.lconst 1 d3_57 rfl ?_
      refine W.land d3_58 ?_
      rcases own_and1L (XT.ushrL c L) with q | q
      · rw [q]
        refine W.lstore d3_59 (by rcases hs with ⟨rfl, rfl, rfl, rfl, rfl⟩ | ⟨e1, e2, e3, e4, rfl, rfl, rfl, rfl, rfl⟩ <;> rfl) ?_
        show WB _ l Z n m3 61 [(.val (.ref 0)), (.val (.ref 1)), (.val (.ref 2)), (.val (.long (own_top c (j + 1)))), .second, (.val (.int (Int32.ofNat (b - (j + 1))))), (.val (.int (0))), (.val (.int (0))), (.val (.int (L))), (.val (.int (0))), (.val (.int (0))), (.val (.int (0))), (.val (.long (0))), .second] [] [.inl ("com/example/reshelve/reshelve/service/sort/ZCurve", [(("com/example/reshelve/reshelve/service/sort/ZCurve", "dimensions", "I"), (.int (1))), (("com/example/reshelve/reshelve/service/sort/ZCurve", "bits", "I"), (.int (Int32.ofNat b))), (("com/example/reshelve/reshelve/service/sort/ZCurve", "words", "I"), (.int (Int32.ofNat (own_w b))))]), .inr (.long, [(.long (c))]), .inr (.long, List.replicate (own_w b) (Value.long 0))] _ _ _
        refine W.lloadN d3_61 rfl ?_
        refine W.iconst 1 d3_62 rfl ?_
        refine W.lshl d3_63 ?_
        refine W.lload d3_64 rfl ?_
        refine W.lor d3_66 ?_
        refine W.lstoreN d3_67 rfl ?_
        refine W.iinc 1 d3_68 rfl rfl ?_
        refine W.iload d3_71 rfl ?_
        refine W.bipush 64 d3_73 rfl ?_
        refine W.icmp_ne d3_75 (fun h => False.elim (h hp64)) (fun h75 => ?_)
        refine W.aloadN d3_78 rfl rfl ?_
        refine W.iload d3_79 rfl ?_
        refine W.iinc 1 d3_81 rfl rfl ?_
        refine W.lloadN d3_84 rfl ?_
        refine W.lastore (i := 0) d3_85 rfl ⟨by decide, by decide⟩ (by rw [List.length_replicate, own_w, if_neg (by omega)] <;> decide) ?_
        show WB _ l Z n m3 86 [(.val (.ref 0)), (.val (.ref 1)), (.val (.ref 2)), (.val (.long (((own_top c (j + 1)) <<< ((1 : Int32) &&& 0x3f).toInt64) ||| 0))), .second, (.val (.int ((Int32.ofNat (b - (j + 1))) + 1))), (.val (.int (0 + 1))), (.val (.int (0))), (.val (.int (L))), (.val (.int (0))), (.val (.int (0))), (.val (.int (0))), (.val (.long (0))), .second] [] [.inl ("com/example/reshelve/reshelve/service/sort/ZCurve", [(("com/example/reshelve/reshelve/service/sort/ZCurve", "dimensions", "I"), (.int (1))), (("com/example/reshelve/reshelve/service/sort/ZCurve", "bits", "I"), (.int (Int32.ofNat b))), (("com/example/reshelve/reshelve/service/sort/ZCurve", "words", "I"), (.int (Int32.ofNat (own_w b))))]), .inr (.long, [(.long (c))]), .inr (.long, (List.replicate (own_w b) (Value.long 0)).set 0 (.long (((own_top c (j + 1)) <<< ((1 : Int32) &&& 0x3f).toInt64) ||| 0)))] _ _ _
        refine W.iconst 0 d3_86 rfl ?_
        refine W.istore d3_87 rfl ?_
        refine W.iload d3_89 rfl ?_
        refine W.lload d3_91 rfl ?_
        refine W.l2i d3_93 ?_
        refine W.iadd d3_94 ?_
        refine W.istore d3_95 rfl ?_
        refine W.iload d3_97 rfl ?_
        refine W.iconst 1 d3_99 rfl ?_
        refine W.iadd d3_100 ?_
        refine W.aloadN d3_101 rfl rfl ?_
        refine W.getfield 0 d3_102 (hw _ (wd 10 rfl)) rfl rfl ?_
        refine W.icmp_ne d3_105 (fun h => False.elim (by revert h; decide)) (fun h105 => ?_)
        refine W.iconst 0 d3_108 rfl ?_
        refine W.goto d3_109 ?_
        refine W.istore d3_116 rfl ?_
        refine W.iinc 1 d3_118 rfl rfl ?_
        show WB _ l Z n m3 121 [(.val (.ref 0)), (.val (.ref 1)), (.val (.ref 2)), (.val (.long (((own_top c (j + 1)) <<< ((1 : Int32) &&& 0x3f).toInt64) ||| 0))), .second, (.val (.int (0))), (.val (.int (0 + 1))), (.val (.int (0))), (.val (.int (L))), (.val (.int (0 + ((0 : Int64).toInt32)))), (.val (.int (0))), (.val (.int (0 + 1))), (.val (.long (0))), .second] [] [.inl ("com/example/reshelve/reshelve/service/sort/ZCurve", [(("com/example/reshelve/reshelve/service/sort/ZCurve", "dimensions", "I"), (.int (1))), (("com/example/reshelve/reshelve/service/sort/ZCurve", "bits", "I"), (.int (Int32.ofNat b))), (("com/example/reshelve/reshelve/service/sort/ZCurve", "words", "I"), (.int (Int32.ofNat (own_w b))))]), .inr (.long, [(.long (c))]), .inr (.long, (List.replicate (own_w b) (Value.long 0)).set 0 (.long (((own_top c (j + 1)) <<< ((1 : Int32) &&& 0x3f).toInt64) ||| 0)))] _ _ _
        refine W.goto d3_121 ?_
        refine W.iload d3_41 rfl ?_
        refine W.aloadN d3_43 rfl rfl ?_
        refine W.getfield 0 d3_44 (hw _ (wd 10 rfl)) rfl rfl ?_
        refine W.icmp_ge d3_47 (fun h47 => ?_) (fun h => False.elim (by revert h; decide))
        refine W.iload d3_124 rfl ?_
        refine W.iload d3_126 rfl ?_
        refine W.iadd d3_128 ?_
        refine W.istore d3_129 rfl ?_
        refine W.iload d3_131 rfl ?_
        refine W.aloadN d3_133 rfl rfl ?_
        refine W.getfield 0 d3_134 (hw _ (wd 10 rfl)) rfl rfl ?_
        refine W.icmp_lt d3_137 (fun h137 => ?_) (fun h => False.elim (by revert h; decide))
        refine W.iinc (-1) d3_149 rfl rfl ?_
        refine W.goto d3_152 ?_
        refine W.iload d3_26 rfl ?_
        refine W.if_lt d3_28 (fun h28 => ?_) (fun h => False.elim (h hlast))
        refine W.iload d3_155 rfl ?_
        refine W.if_le d3_157 (fun h157 => ?_) (fun h => False.elim (by revert h; decide))
        refine W.aloadN d3_171 rfl rfl ?_
        exact W.areturn d3_172 rfl rfl rfl (by decide) (by decide) (⟨rfl, by rw [own_tstep c 0 j (by omega) (by rw [← hLj]; exact q), hj0, own_top0, hb64, own_res64] <;> rfl⟩)
      · rw [q]
        refine W.lstore d3_59 (by rcases hs with ⟨rfl, rfl, rfl, rfl, rfl⟩ | ⟨e1, e2, e3, e4, rfl, rfl, rfl, rfl, rfl⟩ <;> rfl) ?_
        show WB _ l Z n m3 61 [(.val (.ref 0)), (.val (.ref 1)), (.val (.ref 2)), (.val (.long (own_top c (j + 1)))), .second, (.val (.int (Int32.ofNat (b - (j + 1))))), (.val (.int (0))), (.val (.int (0))), (.val (.int (L))), (.val (.int (0))), (.val (.int (0))), (.val (.int (0))), (.val (.long (1))), .second] [] [.inl ("com/example/reshelve/reshelve/service/sort/ZCurve", [(("com/example/reshelve/reshelve/service/sort/ZCurve", "dimensions", "I"), (.int (1))), (("com/example/reshelve/reshelve/service/sort/ZCurve", "bits", "I"), (.int (Int32.ofNat b))), (("com/example/reshelve/reshelve/service/sort/ZCurve", "words", "I"), (.int (Int32.ofNat (own_w b))))]), .inr (.long, [(.long (c))]), .inr (.long, List.replicate (own_w b) (Value.long 0))] _ _ _
        refine W.lloadN d3_61 rfl ?_
        refine W.iconst 1 d3_62 rfl ?_
        refine W.lshl d3_63 ?_
        refine W.lload d3_64 rfl ?_
        refine W.lor d3_66 ?_
        refine W.lstoreN d3_67 rfl ?_
        refine W.iinc 1 d3_68 rfl rfl ?_
        refine W.iload d3_71 rfl ?_
        refine W.bipush 64 d3_73 rfl ?_
        refine W.icmp_ne d3_75 (fun h => False.elim (h hp64)) (fun h75 => ?_)
        refine W.aloadN d3_78 rfl rfl ?_
        refine W.iload d3_79 rfl ?_
        refine W.iinc 1 d3_81 rfl rfl ?_
        refine W.lloadN d3_84 rfl ?_
        refine W.lastore (i := 0) d3_85 rfl ⟨by decide, by decide⟩ (by rw [List.length_replicate, own_w, if_neg (by omega)] <;> decide) ?_
        show WB _ l Z n m3 86 [(.val (.ref 0)), (.val (.ref 1)), (.val (.ref 2)), (.val (.long (((own_top c (j + 1)) <<< ((1 : Int32) &&& 0x3f).toInt64) ||| 1))), .second, (.val (.int ((Int32.ofNat (b - (j + 1))) + 1))), (.val (.int (0 + 1))), (.val (.int (0))), (.val (.int (L))), (.val (.int (0))), (.val (.int (0))), (.val (.int (0))), (.val (.long (1))), .second] [] [.inl ("com/example/reshelve/reshelve/service/sort/ZCurve", [(("com/example/reshelve/reshelve/service/sort/ZCurve", "dimensions", "I"), (.int (1))), (("com/example/reshelve/reshelve/service/sort/ZCurve", "bits", "I"), (.int (Int32.ofNat b))), (("com/example/reshelve/reshelve/service/sort/ZCurve", "words", "I"), (.int (Int32.ofNat (own_w b))))]), .inr (.long, [(.long (c))]), .inr (.long, (List.replicate (own_w b) (Value.long 0)).set 0 (.long (((own_top c (j + 1)) <<< ((1 : Int32) &&& 0x3f).toInt64) ||| 1)))] _ _ _
        refine W.iconst 0 d3_86 rfl ?_
        refine W.istore d3_87 rfl ?_
        refine W.iload d3_89 rfl ?_
        refine W.lload d3_91 rfl ?_
        refine W.l2i d3_93 ?_
        refine W.iadd d3_94 ?_
        refine W.istore d3_95 rfl ?_
        refine W.iload d3_97 rfl ?_
        refine W.iconst 1 d3_99 rfl ?_
        refine W.iadd d3_100 ?_
        refine W.aloadN d3_101 rfl rfl ?_
        refine W.getfield 0 d3_102 (hw _ (wd 10 rfl)) rfl rfl ?_
        refine W.icmp_ne d3_105 (fun h => False.elim (by revert h; decide)) (fun h105 => ?_)
        refine W.iconst 0 d3_108 rfl ?_
        refine W.goto d3_109 ?_
        refine W.istore d3_116 rfl ?_
        refine W.iinc 1 d3_118 rfl rfl ?_
        show WB _ l Z n m3 121 [(.val (.ref 0)), (.val (.ref 1)), (.val (.ref 2)), (.val (.long (((own_top c (j + 1)) <<< ((1 : Int32) &&& 0x3f).toInt64) ||| 1))), .second, (.val (.int (0))), (.val (.int (0 + 1))), (.val (.int (0))), (.val (.int (L))), (.val (.int (0 + ((1 : Int64).toInt32)))), (.val (.int (0))), (.val (.int (0 + 1))), (.val (.long (1))), .second] [] [.inl ("com/example/reshelve/reshelve/service/sort/ZCurve", [(("com/example/reshelve/reshelve/service/sort/ZCurve", "dimensions", "I"), (.int (1))), (("com/example/reshelve/reshelve/service/sort/ZCurve", "bits", "I"), (.int (Int32.ofNat b))), (("com/example/reshelve/reshelve/service/sort/ZCurve", "words", "I"), (.int (Int32.ofNat (own_w b))))]), .inr (.long, [(.long (c))]), .inr (.long, (List.replicate (own_w b) (Value.long 0)).set 0 (.long (((own_top c (j + 1)) <<< ((1 : Int32) &&& 0x3f).toInt64) ||| 1)))] _ _ _
        refine W.goto d3_121 ?_
        refine W.iload d3_41 rfl ?_
        refine W.aloadN d3_43 rfl rfl ?_
        refine W.getfield 0 d3_44 (hw _ (wd 10 rfl)) rfl rfl ?_
        refine W.icmp_ge d3_47 (fun h47 => ?_) (fun h => False.elim (by revert h; decide))
        refine W.iload d3_124 rfl ?_
        refine W.iload d3_126 rfl ?_
        refine W.iadd d3_128 ?_
        refine W.istore d3_129 rfl ?_
        refine W.iload d3_131 rfl ?_
        refine W.aloadN d3_133 rfl rfl ?_
        refine W.getfield 0 d3_134 (hw _ (wd 10 rfl)) rfl rfl ?_
        refine W.icmp_lt d3_137 (fun h => False.elim (by revert h; decide)) (fun h137 => ?_)
        refine W.iload d3_140 rfl ?_
        refine W.aloadN d3_142 rfl rfl ?_
        refine W.getfield 0 d3_143 (hw _ (wd 10 rfl)) rfl rfl ?_
        refine W.isub d3_146 ?_
        refine W.istore d3_147 rfl ?_
        refine W.iinc (-1) d3_149 rfl rfl ?_
        refine W.goto d3_152 ?_
        refine W.iload d3_26 rfl ?_
        refine W.if_lt d3_28 (fun h28 => ?_) (fun h => False.elim (h hlast))
        refine W.iload d3_155 rfl ?_
        refine W.if_le d3_157 (fun h157 => ?_) (fun h => False.elim (by revert h; decide))
        refine W.aloadN d3_171 rfl rfl ?_
        exact W.areturn d3_172 rfl rfl rfl (by decide) (by decide) (⟨rfl, by rw [own_tstep c 1 j (by omega) (by rw [← hLj]; exact q), hj0, own_top0, hb64, own_res64] <;> rfl⟩)
theorem own_lb (b : Nat) (hb : b ≤ 64) : (Int32.ofNat b - 1).toInt = (b : Int) - 1 := by
  rw [Int32.toInt_sub, own_i (by omega)]
  have : (1 : Int32).toInt = 1 := rfl
  rw [this]
  exact Int.bmod_eq_of_le (by omega) (by omega)
set_option maxRecDepth 65536 in
set_option maxHeartbeats 40000000 in
theorem w3 {l : Launch} {Z : State} {a0 : Array Value} {n : Nat} (hw : ∀ d ∈ tables_1, d.before a0 Z = true) (b : Nat) (c : Int64) (hb : b ≤ 64) (hc : own_top c b = 0) : W l Z n m3 0 (entryL [.ref 0, .ref 1] 14) [] [.inl ("com/example/reshelve/reshelve/service/sort/ZCurve", [(("com/example/reshelve/reshelve/service/sort/ZCurve", "dimensions", "I"), (.int (1))), (("com/example/reshelve/reshelve/service/sort/ZCurve", "bits", "I"), (.int (Int32.ofNat b))), (("com/example/reshelve/reshelve/service/sort/ZCurve", "words", "I"), (.int (Int32.ofNat (own_w b))))]), .inr (.long, [(.long (c))])] 0 0 (Is (some (.ref 2)) [.inl ("com/example/reshelve/reshelve/service/sort/ZCurve", [(("com/example/reshelve/reshelve/service/sort/ZCurve", "dimensions", "I"), (.int (1))), (("com/example/reshelve/reshelve/service/sort/ZCurve", "bits", "I"), (.int (Int32.ofNat b))), (("com/example/reshelve/reshelve/service/sort/ZCurve", "words", "I"), (.int (Int32.ofNat (own_w b))))]), .inr (.long, [(.long (c))]), .inr (.long, own_res b c)]) := by
  show W l Z n m3 0 [(.val (.ref 0)), (.val (.ref 1)), .unset, .unset, .unset, .unset, .unset, .unset, .unset, .unset, .unset, .unset, .unset, .unset] [] [.inl ("com/example/reshelve/reshelve/service/sort/ZCurve", [(("com/example/reshelve/reshelve/service/sort/ZCurve", "dimensions", "I"), (.int (1))), (("com/example/reshelve/reshelve/service/sort/ZCurve", "bits", "I"), (.int (Int32.ofNat b))), (("com/example/reshelve/reshelve/service/sort/ZCurve", "words", "I"), (.int (Int32.ofNat (own_w b))))]), .inr (.long, [(.long (c))])] 0 0 _
  refine W.aloadN d3_0 rfl rfl ?_
  refine W.getfield 2 d3_1 (hw _ (wd 15 rfl)) rfl rfl ?_
  refine W.newarray (N := 2) (cnt := (own_w b)) (cap := 1) d3_4 (hw _ (wd 17 rfl)) (own_idx (own_w b) (by unfold own_w; split <;> omega)) rfl (by unfold own_w; split <;> omega) (by decide) (by decide) (by decide) ?_
  refine W.astoreN d3_6 rfl rfl ?_
  refine W.lconst 0 d3_7 rfl ?_
  refine W.lstoreN d3_8 rfl ?_
  refine W.iconst 0 d3_9 rfl ?_
  refine W.istore d3_10 rfl ?_
  show WB _ l Z n m3 12 [(.val (.ref 0)), (.val (.ref 1)), (.val (.ref 2)), (.val (.long (0))), .second, (.val (.int (0))), .unset, .unset, .unset, .unset, .unset, .unset, .unset, .unset] [] [.inl ("com/example/reshelve/reshelve/service/sort/ZCurve", [(("com/example/reshelve/reshelve/service/sort/ZCurve", "dimensions", "I"), (.int (1))), (("com/example/reshelve/reshelve/service/sort/ZCurve", "bits", "I"), (.int (Int32.ofNat b))), (("com/example/reshelve/reshelve/service/sort/ZCurve", "words", "I"), (.int (Int32.ofNat (own_w b))))]), .inr (.long, [(.long (c))]), .inr (.long, List.replicate (own_w b) (Value.long 0))] _ _ _
  refine W.iconst 0 d3_12 rfl ?_
  refine W.istore d3_13 rfl ?_
  refine W.iconst 0 d3_15 rfl ?_
  refine W.istore d3_16 rfl ?_
  refine W.aloadN d3_18 rfl rfl ?_
  refine W.getfield 1 d3_19 (hw _ (wd 12 rfl)) rfl rfl ?_
  refine W.iconst 1 d3_22 rfl ?_
  refine W.isub d3_23 ?_
  refine W.istore d3_24 rfl ?_
  have q := zloop (l := l) (n := n) hw b c hb b (Int32.ofNat b - 1) (own_top c b) .unset .unset .unset .unset .unset (Or.inl ⟨rfl, rfl, rfl, rfl, rfl⟩) (own_lb b hb) (Nat.le_refl _) (by omega) rfl
  rw [hc, Nat.sub_self] at q
  exact q
def own_bit (x : Int64) (L : Int32) : Int32 := (XT.ushrL x L &&& 1).toInt32
def own_ones (t1 t2 t3 : Fin 8) (L : Int32) : Int32 := own_bit (Int64.ofNat t1.1) L + own_bit (Int64.ofNat t2.1) L + own_bit (Int64.ofNat t3.1) L
def own_three (a b c : Int64) : Int64 := a * 4 + b * 2 + c
def own_lvl (t1 t2 t3 : Fin 8) (L lead : Int32) : Int64 :=
  if lead = 0 then own_three (own_bit (Int64.ofNat t1.1) L).toInt64 (own_bit (Int64.ofNat t2.1) L).toInt64 (own_bit (Int64.ofNat t3.1) L).toInt64
  else if lead = 1 then own_three (own_bit (Int64.ofNat t2.1) L).toInt64 (own_bit (Int64.ofNat t3.1) L).toInt64 (own_bit (Int64.ofNat t1.1) L).toInt64
  else own_three (own_bit (Int64.ofNat t3.1) L).toInt64 (own_bit (Int64.ofNat t1.1) L).toInt64 (own_bit (Int64.ofNat t2.1) L).toInt64
def own_zz (t1 t2 t3 : Fin 8) : Int64 :=
  (own_lvl t1 t2 t3 2 0 * 64 + own_lvl t1 t2 t3 1 (own_ones t1 t2 t3 2 % 3) * 8 + own_lvl t1 t2 t3 0 ((own_ones t1 t2 t3 2 % 3 + own_ones t1 t2 t3 1) % 3)) <<< (55 : Int64)
theorem own_and7 (x : Int64) : ∃ t : Fin 8, x &&& 7 = Int64.ofNat t.1 := by
  refine ⟨⟨(x &&& 7).toBitVec.toNat, ?_⟩, ?_⟩
  · show (x.toBitVec &&& 7#64).toNat < 8
    rw [BitVec.toNat_and]; exact Nat.lt_of_le_of_lt Nat.and_le_right (by decide)
  · apply Int64.toBitVec_inj.1
    show (x &&& 7).toBitVec = BitVec.ofNat 64 _
    rw [BitVec.ofNat_toNat, BitVec.setWidth_eq]
theorem own_k0 : ∀ t1 t2 t3 : Fin 8, 0 + (((0 + (((XT.ushrL (Int64.ofNat t1.1) (3 - 1)) &&& 1).toInt32)) + (((XT.ushrL (Int64.ofNat t2.1) (3 - 1)) &&& 1).toInt32)) + (((XT.ushrL (Int64.ofNat t3.1) (3 - 1)) &&& 1).toInt32)) = 0 ∨ 0 + (((0 + (((XT.ushrL (Int64.ofNat t1.1) (3 - 1)) &&& 1).toInt32)) + (((XT.ushrL (Int64.ofNat t2.1) (3 - 1)) &&& 1).toInt32)) + (((XT.ushrL (Int64.ofNat t3.1) (3 - 1)) &&& 1).toInt32)) = 1 ∨ 0 + (((0 + (((XT.ushrL (Int64.ofNat t1.1) (3 - 1)) &&& 1).toInt32)) + (((XT.ushrL (Int64.ofNat t2.1) (3 - 1)) &&& 1).toInt32)) + (((XT.ushrL (Int64.ofNat t3.1) (3 - 1)) &&& 1).toInt32)) = 2 ∨ 0 + (((0 + (((XT.ushrL (Int64.ofNat t1.1) (3 - 1)) &&& 1).toInt32)) + (((XT.ushrL (Int64.ofNat t2.1) (3 - 1)) &&& 1).toInt32)) + (((XT.ushrL (Int64.ofNat t3.1) (3 - 1)) &&& 1).toInt32)) = 3 := by decide +kernel
theorem own_k1 : ∀ t1 t2 t3 : Fin 8, 0 + (((0 + (((XT.ushrL (Int64.ofNat t1.1) ((3 - 1) + (-1))) &&& 1).toInt32)) + (((XT.ushrL (Int64.ofNat t2.1) ((3 - 1) + (-1))) &&& 1).toInt32)) + (((XT.ushrL (Int64.ofNat t3.1) ((3 - 1) + (-1))) &&& 1).toInt32)) = 0 ∨ 0 + (((0 + (((XT.ushrL (Int64.ofNat t1.1) ((3 - 1) + (-1))) &&& 1).toInt32)) + (((XT.ushrL (Int64.ofNat t2.1) ((3 - 1) + (-1))) &&& 1).toInt32)) + (((XT.ushrL (Int64.ofNat t3.1) ((3 - 1) + (-1))) &&& 1).toInt32)) = 1 ∨ 0 + (((0 + (((XT.ushrL (Int64.ofNat t1.1) ((3 - 1) + (-1))) &&& 1).toInt32)) + (((XT.ushrL (Int64.ofNat t2.1) ((3 - 1) + (-1))) &&& 1).toInt32)) + (((XT.ushrL (Int64.ofNat t3.1) ((3 - 1) + (-1))) &&& 1).toInt32)) = 2 ∨ 0 + (((0 + (((XT.ushrL (Int64.ofNat t1.1) ((3 - 1) + (-1))) &&& 1).toInt32)) + (((XT.ushrL (Int64.ofNat t2.1) ((3 - 1) + (-1))) &&& 1).toInt32)) + (((XT.ushrL (Int64.ofNat t3.1) ((3 - 1) + (-1))) &&& 1).toInt32)) = 3 := by decide +kernel
theorem own_k2 : ∀ t1 t2 t3 : Fin 8, 0 + (((0 + (((XT.ushrL (Int64.ofNat t1.1) (3 - 1)) &&& 1).toInt32)) + (((XT.ushrL (Int64.ofNat t2.1) (3 - 1)) &&& 1).toInt32)) + (((XT.ushrL (Int64.ofNat t3.1) (3 - 1)) &&& 1).toInt32)) = 0 → 0 + (((0 + (((XT.ushrL (Int64.ofNat t1.1) ((3 - 1) + (-1))) &&& 1).toInt32)) + (((XT.ushrL (Int64.ofNat t2.1) ((3 - 1) + (-1))) &&& 1).toInt32)) + (((XT.ushrL (Int64.ofNat t3.1) ((3 - 1) + (-1))) &&& 1).toInt32)) = 0 → (((((((((((((((((((0 : Int64) <<< ((1 : Int32) &&& 0x3f).toInt64) ||| ((XT.ushrL (Int64.ofNat t1.1) (3 - 1)) &&& 1)) <<< ((1 : Int32) &&& 0x3f).toInt64) ||| ((XT.ushrL (Int64.ofNat t2.1) (3 - 1)) &&& 1)) <<< ((1 : Int32) &&& 0x3f).toInt64) ||| ((XT.ushrL (Int64.ofNat t3.1) (3 - 1)) &&& 1)) <<< ((1 : Int32) &&& 0x3f).toInt64) ||| ((XT.ushrL (Int64.ofNat t1.1) ((3 - 1) + (-1))) &&& 1)) <<< ((1 : Int32) &&& 0x3f).toInt64) ||| ((XT.ushrL (Int64.ofNat t2.1) ((3 - 1) + (-1))) &&& 1)) <<< ((1 : Int32) &&& 0x3f).toInt64) ||| ((XT.ushrL (Int64.ofNat t3.1) ((3 - 1) + (-1))) &&& 1)) <<< ((1 : Int32) &&& 0x3f).toInt64) ||| ((XT.ushrL (Int64.ofNat t1.1) (((3 - 1) + (-1)) + (-1))) &&& 1)) <<< ((1 : Int32) &&& 0x3f).toInt64) ||| ((XT.ushrL (Int64.ofNat t2.1) (((3 - 1) + (-1)) + (-1))) &&& 1)) <<< ((1 : Int32) &&& 0x3f).toInt64) ||| ((XT.ushrL (Int64.ofNat t3.1) (((3 - 1) + (-1)) + (-1))) &&& 1)) <<< ((64 - (((((((((0 + 1) + 1) + 1) + 1) + 1) + 1) + 1) + 1) + 1) : Int32) &&& 0x3f).toInt64 = own_zz t1 t2 t3 := by decide +kernel
theorem own_k3 : ∀ t1 t2 t3 : Fin 8, 0 + (((0 + (((XT.ushrL (Int64.ofNat t1.1) (3 - 1)) &&& 1).toInt32)) + (((XT.ushrL (Int64.ofNat t2.1) (3 - 1)) &&& 1).toInt32)) + (((XT.ushrL (Int64.ofNat t3.1) (3 - 1)) &&& 1).toInt32)) = 0 → 0 + (((0 + (((XT.ushrL (Int64.ofNat t1.1) ((3 - 1) + (-1))) &&& 1).toInt32)) + (((XT.ushrL (Int64.ofNat t2.1) ((3 - 1) + (-1))) &&& 1).toInt32)) + (((XT.ushrL (Int64.ofNat t3.1) ((3 - 1) + (-1))) &&& 1).toInt32)) = 1 → (((((((((((((((((((0 : Int64) <<< ((1 : Int32) &&& 0x3f).toInt64) ||| ((XT.ushrL (Int64.ofNat t1.1) (3 - 1)) &&& 1)) <<< ((1 : Int32) &&& 0x3f).toInt64) ||| ((XT.ushrL (Int64.ofNat t2.1) (3 - 1)) &&& 1)) <<< ((1 : Int32) &&& 0x3f).toInt64) ||| ((XT.ushrL (Int64.ofNat t3.1) (3 - 1)) &&& 1)) <<< ((1 : Int32) &&& 0x3f).toInt64) ||| ((XT.ushrL (Int64.ofNat t1.1) ((3 - 1) + (-1))) &&& 1)) <<< ((1 : Int32) &&& 0x3f).toInt64) ||| ((XT.ushrL (Int64.ofNat t2.1) ((3 - 1) + (-1))) &&& 1)) <<< ((1 : Int32) &&& 0x3f).toInt64) ||| ((XT.ushrL (Int64.ofNat t3.1) ((3 - 1) + (-1))) &&& 1)) <<< ((1 : Int32) &&& 0x3f).toInt64) ||| ((XT.ushrL (Int64.ofNat t2.1) (((3 - 1) + (-1)) + (-1))) &&& 1)) <<< ((1 : Int32) &&& 0x3f).toInt64) ||| ((XT.ushrL (Int64.ofNat t3.1) (((3 - 1) + (-1)) + (-1))) &&& 1)) <<< ((1 : Int32) &&& 0x3f).toInt64) ||| ((XT.ushrL (Int64.ofNat t1.1) (((3 - 1) + (-1)) + (-1))) &&& 1)) <<< ((64 - (((((((((0 + 1) + 1) + 1) + 1) + 1) + 1) + 1) + 1) + 1) : Int32) &&& 0x3f).toInt64 = own_zz t1 t2 t3 := by decide +kernel
theorem own_k4 : ∀ t1 t2 t3 : Fin 8, 0 + (((0 + (((XT.ushrL (Int64.ofNat t1.1) (3 - 1)) &&& 1).toInt32)) + (((XT.ushrL (Int64.ofNat t2.1) (3 - 1)) &&& 1).toInt32)) + (((XT.ushrL (Int64.ofNat t3.1) (3 - 1)) &&& 1).toInt32)) = 0 → 0 + (((0 + (((XT.ushrL (Int64.ofNat t1.1) ((3 - 1) + (-1))) &&& 1).toInt32)) + (((XT.ushrL (Int64.ofNat t2.1) ((3 - 1) + (-1))) &&& 1).toInt32)) + (((XT.ushrL (Int64.ofNat t3.1) ((3 - 1) + (-1))) &&& 1).toInt32)) = 2 → (((((((((((((((((((0 : Int64) <<< ((1 : Int32) &&& 0x3f).toInt64) ||| ((XT.ushrL (Int64.ofNat t1.1) (3 - 1)) &&& 1)) <<< ((1 : Int32) &&& 0x3f).toInt64) ||| ((XT.ushrL (Int64.ofNat t2.1) (3 - 1)) &&& 1)) <<< ((1 : Int32) &&& 0x3f).toInt64) ||| ((XT.ushrL (Int64.ofNat t3.1) (3 - 1)) &&& 1)) <<< ((1 : Int32) &&& 0x3f).toInt64) ||| ((XT.ushrL (Int64.ofNat t1.1) ((3 - 1) + (-1))) &&& 1)) <<< ((1 : Int32) &&& 0x3f).toInt64) ||| ((XT.ushrL (Int64.ofNat t2.1) ((3 - 1) + (-1))) &&& 1)) <<< ((1 : Int32) &&& 0x3f).toInt64) ||| ((XT.ushrL (Int64.ofNat t3.1) ((3 - 1) + (-1))) &&& 1)) <<< ((1 : Int32) &&& 0x3f).toInt64) ||| ((XT.ushrL (Int64.ofNat t3.1) (((3 - 1) + (-1)) + (-1))) &&& 1)) <<< ((1 : Int32) &&& 0x3f).toInt64) ||| ((XT.ushrL (Int64.ofNat t1.1) (((3 - 1) + (-1)) + (-1))) &&& 1)) <<< ((1 : Int32) &&& 0x3f).toInt64) ||| ((XT.ushrL (Int64.ofNat t2.1) (((3 - 1) + (-1)) + (-1))) &&& 1)) <<< ((64 - (((((((((0 + 1) + 1) + 1) + 1) + 1) + 1) + 1) + 1) + 1) : Int32) &&& 0x3f).toInt64 = own_zz t1 t2 t3 := by decide +kernel
theorem own_k5 : ∀ t1 t2 t3 : Fin 8, 0 + (((0 + (((XT.ushrL (Int64.ofNat t1.1) (3 - 1)) &&& 1).toInt32)) + (((XT.ushrL (Int64.ofNat t2.1) (3 - 1)) &&& 1).toInt32)) + (((XT.ushrL (Int64.ofNat t3.1) (3 - 1)) &&& 1).toInt32)) = 0 → 0 + (((0 + (((XT.ushrL (Int64.ofNat t1.1) ((3 - 1) + (-1))) &&& 1).toInt32)) + (((XT.ushrL (Int64.ofNat t2.1) ((3 - 1) + (-1))) &&& 1).toInt32)) + (((XT.ushrL (Int64.ofNat t3.1) ((3 - 1) + (-1))) &&& 1).toInt32)) = 3 → (((((((((((((((((((0 : Int64) <<< ((1 : Int32) &&& 0x3f).toInt64) ||| ((XT.ushrL (Int64.ofNat t1.1) (3 - 1)) &&& 1)) <<< ((1 : Int32) &&& 0x3f).toInt64) ||| ((XT.ushrL (Int64.ofNat t2.1) (3 - 1)) &&& 1)) <<< ((1 : Int32) &&& 0x3f).toInt64) ||| ((XT.ushrL (Int64.ofNat t3.1) (3 - 1)) &&& 1)) <<< ((1 : Int32) &&& 0x3f).toInt64) ||| ((XT.ushrL (Int64.ofNat t1.1) ((3 - 1) + (-1))) &&& 1)) <<< ((1 : Int32) &&& 0x3f).toInt64) ||| ((XT.ushrL (Int64.ofNat t2.1) ((3 - 1) + (-1))) &&& 1)) <<< ((1 : Int32) &&& 0x3f).toInt64) ||| ((XT.ushrL (Int64.ofNat t3.1) ((3 - 1) + (-1))) &&& 1)) <<< ((1 : Int32) &&& 0x3f).toInt64) ||| ((XT.ushrL (Int64.ofNat t1.1) (((3 - 1) + (-1)) + (-1))) &&& 1)) <<< ((1 : Int32) &&& 0x3f).toInt64) ||| ((XT.ushrL (Int64.ofNat t2.1) (((3 - 1) + (-1)) + (-1))) &&& 1)) <<< ((1 : Int32) &&& 0x3f).toInt64) ||| ((XT.ushrL (Int64.ofNat t3.1) (((3 - 1) + (-1)) + (-1))) &&& 1)) <<< ((64 - (((((((((0 + 1) + 1) + 1) + 1) + 1) + 1) + 1) + 1) + 1) : Int32) &&& 0x3f).toInt64 = own_zz t1 t2 t3 := by decide +kernel
theorem own_k6 : ∀ t1 t2 t3 : Fin 8, 1 + (((0 + (((XT.ushrL (Int64.ofNat t2.1) ((3 - 1) + (-1))) &&& 1).toInt32)) + (((XT.ushrL (Int64.ofNat t3.1) ((3 - 1) + (-1))) &&& 1).toInt32)) + (((XT.ushrL (Int64.ofNat t1.1) ((3 - 1) + (-1))) &&& 1).toInt32)) = 1 ∨ 1 + (((0 + (((XT.ushrL (Int64.ofNat t2.1) ((3 - 1) + (-1))) &&& 1).toInt32)) + (((XT.ushrL (Int64.ofNat t3.1) ((3 - 1) + (-1))) &&& 1).toInt32)) + (((XT.ushrL (Int64.ofNat t1.1) ((3 - 1) + (-1))) &&& 1).toInt32)) = 2 ∨ 1 + (((0 + (((XT.ushrL (Int64.ofNat t2.1) ((3 - 1) + (-1))) &&& 1).toInt32)) + (((XT.ushrL (Int64.ofNat t3.1) ((3 - 1) + (-1))) &&& 1).toInt32)) + (((XT.ushrL (Int64.ofNat t1.1) ((3 - 1) + (-1))) &&& 1).toInt32)) = 3 ∨ 1 + (((0 + (((XT.ushrL (Int64.ofNat t2.1) ((3 - 1) + (-1))) &&& 1).toInt32)) + (((XT.ushrL (Int64.ofNat t3.1) ((3 - 1) + (-1))) &&& 1).toInt32)) + (((XT.ushrL (Int64.ofNat t1.1) ((3 - 1) + (-1))) &&& 1).toInt32)) = 4 := by decide +kernel
theorem own_k7 : ∀ t1 t2 t3 : Fin 8, 0 + (((0 + (((XT.ushrL (Int64.ofNat t1.1) (3 - 1)) &&& 1).toInt32)) + (((XT.ushrL (Int64.ofNat t2.1) (3 - 1)) &&& 1).toInt32)) + (((XT.ushrL (Int64.ofNat t3.1) (3 - 1)) &&& 1).toInt32)) = 1 → 1 + (((0 + (((XT.ushrL (Int64.ofNat t2.1) ((3 - 1) + (-1))) &&& 1).toInt32)) + (((XT.ushrL (Int64.ofNat t3.1) ((3 - 1) + (-1))) &&& 1).toInt32)) + (((XT.ushrL (Int64.ofNat t1.1) ((3 - 1) + (-1))) &&& 1).toInt32)) = 1 → (((((((((((((((((((0 : Int64) <<< ((1 : Int32) &&& 0x3f).toInt64) ||| ((XT.ushrL (Int64.ofNat t1.1) (3 - 1)) &&& 1)) <<< ((1 : Int32) &&& 0x3f).toInt64) ||| ((XT.ushrL (Int64.ofNat t2.1) (3 - 1)) &&& 1)) <<< ((1 : Int32) &&& 0x3f).toInt64) ||| ((XT.ushrL (Int64.ofNat t3.1) (3 - 1)) &&& 1)) <<< ((1 : Int32) &&& 0x3f).toInt64) ||| ((XT.ushrL (Int64.ofNat t2.1) ((3 - 1) + (-1))) &&& 1)) <<< ((1 : Int32) &&& 0x3f).toInt64) ||| ((XT.ushrL (Int64.ofNat t3.1) ((3 - 1) + (-1))) &&& 1)) <<< ((1 : Int32) &&& 0x3f).toInt64) ||| ((XT.ushrL (Int64.ofNat t1.1) ((3 - 1) + (-1))) &&& 1)) <<< ((1 : Int32) &&& 0x3f).toInt64) ||| ((XT.ushrL (Int64.ofNat t2.1) (((3 - 1) + (-1)) + (-1))) &&& 1)) <<< ((1 : Int32) &&& 0x3f).toInt64) ||| ((XT.ushrL (Int64.ofNat t3.1) (((3 - 1) + (-1)) + (-1))) &&& 1)) <<< ((1 : Int32) &&& 0x3f).toInt64) ||| ((XT.ushrL (Int64.ofNat t1.1) (((3 - 1) + (-1)) + (-1))) &&& 1)) <<< ((64 - (((((((((0 + 1) + 1) + 1) + 1) + 1) + 1) + 1) + 1) + 1) : Int32) &&& 0x3f).toInt64 = own_zz t1 t2 t3 := by decide +kernel
theorem own_k8 : ∀ t1 t2 t3 : Fin 8, 0 + (((0 + (((XT.ushrL (Int64.ofNat t1.1) (3 - 1)) &&& 1).toInt32)) + (((XT.ushrL (Int64.ofNat t2.1) (3 - 1)) &&& 1).toInt32)) + (((XT.ushrL (Int64.ofNat t3.1) (3 - 1)) &&& 1).toInt32)) = 1 → 1 + (((0 + (((XT.ushrL (Int64.ofNat t2.1) ((3 - 1) + (-1))) &&& 1).toInt32)) + (((XT.ushrL (Int64.ofNat t3.1) ((3 - 1) + (-1))) &&& 1).toInt32)) + (((XT.ushrL (Int64.ofNat t1.1) ((3 - 1) + (-1))) &&& 1).toInt32)) = 2 → (((((((((((((((((((0 : Int64) <<< ((1 : Int32) &&& 0x3f).toInt64) ||| ((XT.ushrL (Int64.ofNat t1.1) (3 - 1)) &&& 1)) <<< ((1 : Int32) &&& 0x3f).toInt64) ||| ((XT.ushrL (Int64.ofNat t2.1) (3 - 1)) &&& 1)) <<< ((1 : Int32) &&& 0x3f).toInt64) ||| ((XT.ushrL (Int64.ofNat t3.1) (3 - 1)) &&& 1)) <<< ((1 : Int32) &&& 0x3f).toInt64) ||| ((XT.ushrL (Int64.ofNat t2.1) ((3 - 1) + (-1))) &&& 1)) <<< ((1 : Int32) &&& 0x3f).toInt64) ||| ((XT.ushrL (Int64.ofNat t3.1) ((3 - 1) + (-1))) &&& 1)) <<< ((1 : Int32) &&& 0x3f).toInt64) ||| ((XT.ushrL (Int64.ofNat t1.1) ((3 - 1) + (-1))) &&& 1)) <<< ((1 : Int32) &&& 0x3f).toInt64) ||| ((XT.ushrL (Int64.ofNat t3.1) (((3 - 1) + (-1)) + (-1))) &&& 1)) <<< ((1 : Int32) &&& 0x3f).toInt64) ||| ((XT.ushrL (Int64.ofNat t1.1) (((3 - 1) + (-1)) + (-1))) &&& 1)) <<< ((1 : Int32) &&& 0x3f).toInt64) ||| ((XT.ushrL (Int64.ofNat t2.1) (((3 - 1) + (-1)) + (-1))) &&& 1)) <<< ((64 - (((((((((0 + 1) + 1) + 1) + 1) + 1) + 1) + 1) + 1) + 1) : Int32) &&& 0x3f).toInt64 = own_zz t1 t2 t3 := by decide +kernel
theorem own_k9 : ∀ t1 t2 t3 : Fin 8, 0 + (((0 + (((XT.ushrL (Int64.ofNat t1.1) (3 - 1)) &&& 1).toInt32)) + (((XT.ushrL (Int64.ofNat t2.1) (3 - 1)) &&& 1).toInt32)) + (((XT.ushrL (Int64.ofNat t3.1) (3 - 1)) &&& 1).toInt32)) = 1 → 1 + (((0 + (((XT.ushrL (Int64.ofNat t2.1) ((3 - 1) + (-1))) &&& 1).toInt32)) + (((XT.ushrL (Int64.ofNat t3.1) ((3 - 1) + (-1))) &&& 1).toInt32)) + (((XT.ushrL (Int64.ofNat t1.1) ((3 - 1) + (-1))) &&& 1).toInt32)) = 3 → (((((((((((((((((((0 : Int64) <<< ((1 : Int32) &&& 0x3f).toInt64) ||| ((XT.ushrL (Int64.ofNat t1.1) (3 - 1)) &&& 1)) <<< ((1 : Int32) &&& 0x3f).toInt64) ||| ((XT.ushrL (Int64.ofNat t2.1) (3 - 1)) &&& 1)) <<< ((1 : Int32) &&& 0x3f).toInt64) ||| ((XT.ushrL (Int64.ofNat t3.1) (3 - 1)) &&& 1)) <<< ((1 : Int32) &&& 0x3f).toInt64) ||| ((XT.ushrL (Int64.ofNat t2.1) ((3 - 1) + (-1))) &&& 1)) <<< ((1 : Int32) &&& 0x3f).toInt64) ||| ((XT.ushrL (Int64.ofNat t3.1) ((3 - 1) + (-1))) &&& 1)) <<< ((1 : Int32) &&& 0x3f).toInt64) ||| ((XT.ushrL (Int64.ofNat t1.1) ((3 - 1) + (-1))) &&& 1)) <<< ((1 : Int32) &&& 0x3f).toInt64) ||| ((XT.ushrL (Int64.ofNat t1.1) (((3 - 1) + (-1)) + (-1))) &&& 1)) <<< ((1 : Int32) &&& 0x3f).toInt64) ||| ((XT.ushrL (Int64.ofNat t2.1) (((3 - 1) + (-1)) + (-1))) &&& 1)) <<< ((1 : Int32) &&& 0x3f).toInt64) ||| ((XT.ushrL (Int64.ofNat t3.1) (((3 - 1) + (-1)) + (-1))) &&& 1)) <<< ((64 - (((((((((0 + 1) + 1) + 1) + 1) + 1) + 1) + 1) + 1) + 1) : Int32) &&& 0x3f).toInt64 = own_zz t1 t2 t3 := by decide +kernel
theorem own_k10 : ∀ t1 t2 t3 : Fin 8, 0 + (((0 + (((XT.ushrL (Int64.ofNat t1.1) (3 - 1)) &&& 1).toInt32)) + (((XT.ushrL (Int64.ofNat t2.1) (3 - 1)) &&& 1).toInt32)) + (((XT.ushrL (Int64.ofNat t3.1) (3 - 1)) &&& 1).toInt32)) = 1 → 1 + (((0 + (((XT.ushrL (Int64.ofNat t2.1) ((3 - 1) + (-1))) &&& 1).toInt32)) + (((XT.ushrL (Int64.ofNat t3.1) ((3 - 1) + (-1))) &&& 1).toInt32)) + (((XT.ushrL (Int64.ofNat t1.1) ((3 - 1) + (-1))) &&& 1).toInt32)) = 4 → (((((((((((((((((((0 : Int64) <<< ((1 : Int32) &&& 0x3f).toInt64) ||| ((XT.ushrL (Int64.ofNat t1.1) (3 - 1)) &&& 1)) <<< ((1 : Int32) &&& 0x3f).toInt64) ||| ((XT.ushrL (Int64.ofNat t2.1) (3 - 1)) &&& 1)) <<< ((1 : Int32) &&& 0x3f).toInt64) ||| ((XT.ushrL (Int64.ofNat t3.1) (3 - 1)) &&& 1)) <<< ((1 : Int32) &&& 0x3f).toInt64) ||| ((XT.ushrL (Int64.ofNat t2.1) ((3 - 1) + (-1))) &&& 1)) <<< ((1 : Int32) &&& 0x3f).toInt64) ||| ((XT.ushrL (Int64.ofNat t3.1) ((3 - 1) + (-1))) &&& 1)) <<< ((1 : Int32) &&& 0x3f).toInt64) ||| ((XT.ushrL (Int64.ofNat t1.1) ((3 - 1) + (-1))) &&& 1)) <<< ((1 : Int32) &&& 0x3f).toInt64) ||| ((XT.ushrL (Int64.ofNat t2.1) (((3 - 1) + (-1)) + (-1))) &&& 1)) <<< ((1 : Int32) &&& 0x3f).toInt64) ||| ((XT.ushrL (Int64.ofNat t3.1) (((3 - 1) + (-1)) + (-1))) &&& 1)) <<< ((1 : Int32) &&& 0x3f).toInt64) ||| ((XT.ushrL (Int64.ofNat t1.1) (((3 - 1) + (-1)) + (-1))) &&& 1)) <<< ((64 - (((((((((0 + 1) + 1) + 1) + 1) + 1) + 1) + 1) + 1) + 1) : Int32) &&& 0x3f).toInt64 = own_zz t1 t2 t3 := by decide +kernel
theorem own_k11 : ∀ t1 t2 t3 : Fin 8, 2 + (((0 + (((XT.ushrL (Int64.ofNat t3.1) ((3 - 1) + (-1))) &&& 1).toInt32)) + (((XT.ushrL (Int64.ofNat t1.1) ((3 - 1) + (-1))) &&& 1).toInt32)) + (((XT.ushrL (Int64.ofNat t2.1) ((3 - 1) + (-1))) &&& 1).toInt32)) = 2 ∨ 2 + (((0 + (((XT.ushrL (Int64.ofNat t3.1) ((3 - 1) + (-1))) &&& 1).toInt32)) + (((XT.ushrL (Int64.ofNat t1.1) ((3 - 1) + (-1))) &&& 1).toInt32)) + (((XT.ushrL (Int64.ofNat t2.1) ((3 - 1) + (-1))) &&& 1).toInt32)) = 3 ∨ 2 + (((0 + (((XT.ushrL (Int64.ofNat t3.1) ((3 - 1) + (-1))) &&& 1).toInt32)) + (((XT.ushrL (Int64.ofNat t1.1) ((3 - 1) + (-1))) &&& 1).toInt32)) + (((XT.ushrL (Int64.ofNat t2.1) ((3 - 1) + (-1))) &&& 1).toInt32)) = 4 ∨ 2 + (((0 + (((XT.ushrL (Int64.ofNat t3.1) ((3 - 1) + (-1))) &&& 1).toInt32)) + (((XT.ushrL (Int64.ofNat t1.1) ((3 - 1) + (-1))) &&& 1).toInt32)) + (((XT.ushrL (Int64.ofNat t2.1) ((3 - 1) + (-1))) &&& 1).toInt32)) = 5 := by decide +kernel
theorem own_k12 : ∀ t1 t2 t3 : Fin 8, 0 + (((0 + (((XT.ushrL (Int64.ofNat t1.1) (3 - 1)) &&& 1).toInt32)) + (((XT.ushrL (Int64.ofNat t2.1) (3 - 1)) &&& 1).toInt32)) + (((XT.ushrL (Int64.ofNat t3.1) (3 - 1)) &&& 1).toInt32)) = 2 → 2 + (((0 + (((XT.ushrL (Int64.ofNat t3.1) ((3 - 1) + (-1))) &&& 1).toInt32)) + (((XT.ushrL (Int64.ofNat t1.1) ((3 - 1) + (-1))) &&& 1).toInt32)) + (((XT.ushrL (Int64.ofNat t2.1) ((3 - 1) + (-1))) &&& 1).toInt32)) = 2 → (((((((((((((((((((0 : Int64) <<< ((1 : Int32) &&& 0x3f).toInt64) ||| ((XT.ushrL (Int64.ofNat t1.1) (3 - 1)) &&& 1)) <<< ((1 : Int32) &&& 0x3f).toInt64) ||| ((XT.ushrL (Int64.ofNat t2.1) (3 - 1)) &&& 1)) <<< ((1 : Int32) &&& 0x3f).toInt64) ||| ((XT.ushrL (Int64.ofNat t3.1) (3 - 1)) &&& 1)) <<< ((1 : Int32) &&& 0x3f).toInt64) ||| ((XT.ushrL (Int64.ofNat t3.1) ((3 - 1) + (-1))) &&& 1)) <<< ((1 : Int32) &&& 0x3f).toInt64) ||| ((XT.ushrL (Int64.ofNat t1.1) ((3 - 1) + (-1))) &&& 1)) <<< ((1 : Int32) &&& 0x3f).toInt64) ||| ((XT.ushrL (Int64.ofNat t2.1) ((3 - 1) + (-1))) &&& 1)) <<< ((1 : Int32) &&& 0x3f).toInt64) ||| ((XT.ushrL (Int64.ofNat t3.1) (((3 - 1) + (-1)) + (-1))) &&& 1)) <<< ((1 : Int32) &&& 0x3f).toInt64) ||| ((XT.ushrL (Int64.ofNat t1.1) (((3 - 1) + (-1)) + (-1))) &&& 1)) <<< ((1 : Int32) &&& 0x3f).toInt64) ||| ((XT.ushrL (Int64.ofNat t2.1) (((3 - 1) + (-1)) + (-1))) &&& 1)) <<< ((64 - (((((((((0 + 1) + 1) + 1) + 1) + 1) + 1) + 1) + 1) + 1) : Int32) &&& 0x3f).toInt64 = own_zz t1 t2 t3 := by decide +kernel
theorem own_k13 : ∀ t1 t2 t3 : Fin 8, 0 + (((0 + (((XT.ushrL (Int64.ofNat t1.1) (3 - 1)) &&& 1).toInt32)) + (((XT.ushrL (Int64.ofNat t2.1) (3 - 1)) &&& 1).toInt32)) + (((XT.ushrL (Int64.ofNat t3.1) (3 - 1)) &&& 1).toInt32)) = 2 → 2 + (((0 + (((XT.ushrL (Int64.ofNat t3.1) ((3 - 1) + (-1))) &&& 1).toInt32)) + (((XT.ushrL (Int64.ofNat t1.1) ((3 - 1) + (-1))) &&& 1).toInt32)) + (((XT.ushrL (Int64.ofNat t2.1) ((3 - 1) + (-1))) &&& 1).toInt32)) = 3 → (((((((((((((((((((0 : Int64) <<< ((1 : Int32) &&& 0x3f).toInt64) ||| ((XT.ushrL (Int64.ofNat t1.1) (3 - 1)) &&& 1)) <<< ((1 : Int32) &&& 0x3f).toInt64) ||| ((XT.ushrL (Int64.ofNat t2.1) (3 - 1)) &&& 1)) <<< ((1 : Int32) &&& 0x3f).toInt64) ||| ((XT.ushrL (Int64.ofNat t3.1) (3 - 1)) &&& 1)) <<< ((1 : Int32) &&& 0x3f).toInt64) ||| ((XT.ushrL (Int64.ofNat t3.1) ((3 - 1) + (-1))) &&& 1)) <<< ((1 : Int32) &&& 0x3f).toInt64) ||| ((XT.ushrL (Int64.ofNat t1.1) ((3 - 1) + (-1))) &&& 1)) <<< ((1 : Int32) &&& 0x3f).toInt64) ||| ((XT.ushrL (Int64.ofNat t2.1) ((3 - 1) + (-1))) &&& 1)) <<< ((1 : Int32) &&& 0x3f).toInt64) ||| ((XT.ushrL (Int64.ofNat t1.1) (((3 - 1) + (-1)) + (-1))) &&& 1)) <<< ((1 : Int32) &&& 0x3f).toInt64) ||| ((XT.ushrL (Int64.ofNat t2.1) (((3 - 1) + (-1)) + (-1))) &&& 1)) <<< ((1 : Int32) &&& 0x3f).toInt64) ||| ((XT.ushrL (Int64.ofNat t3.1) (((3 - 1) + (-1)) + (-1))) &&& 1)) <<< ((64 - (((((((((0 + 1) + 1) + 1) + 1) + 1) + 1) + 1) + 1) + 1) : Int32) &&& 0x3f).toInt64 = own_zz t1 t2 t3 := by decide +kernel
theorem own_k14 : ∀ t1 t2 t3 : Fin 8, 0 + (((0 + (((XT.ushrL (Int64.ofNat t1.1) (3 - 1)) &&& 1).toInt32)) + (((XT.ushrL (Int64.ofNat t2.1) (3 - 1)) &&& 1).toInt32)) + (((XT.ushrL (Int64.ofNat t3.1) (3 - 1)) &&& 1).toInt32)) = 2 → 2 + (((0 + (((XT.ushrL (Int64.ofNat t3.1) ((3 - 1) + (-1))) &&& 1).toInt32)) + (((XT.ushrL (Int64.ofNat t1.1) ((3 - 1) + (-1))) &&& 1).toInt32)) + (((XT.ushrL (Int64.ofNat t2.1) ((3 - 1) + (-1))) &&& 1).toInt32)) = 4 → (((((((((((((((((((0 : Int64) <<< ((1 : Int32) &&& 0x3f).toInt64) ||| ((XT.ushrL (Int64.ofNat t1.1) (3 - 1)) &&& 1)) <<< ((1 : Int32) &&& 0x3f).toInt64) ||| ((XT.ushrL (Int64.ofNat t2.1) (3 - 1)) &&& 1)) <<< ((1 : Int32) &&& 0x3f).toInt64) ||| ((XT.ushrL (Int64.ofNat t3.1) (3 - 1)) &&& 1)) <<< ((1 : Int32) &&& 0x3f).toInt64) ||| ((XT.ushrL (Int64.ofNat t3.1) ((3 - 1) + (-1))) &&& 1)) <<< ((1 : Int32) &&& 0x3f).toInt64) ||| ((XT.ushrL (Int64.ofNat t1.1) ((3 - 1) + (-1))) &&& 1)) <<< ((1 : Int32) &&& 0x3f).toInt64) ||| ((XT.ushrL (Int64.ofNat t2.1) ((3 - 1) + (-1))) &&& 1)) <<< ((1 : Int32) &&& 0x3f).toInt64) ||| ((XT.ushrL (Int64.ofNat t2.1) (((3 - 1) + (-1)) + (-1))) &&& 1)) <<< ((1 : Int32) &&& 0x3f).toInt64) ||| ((XT.ushrL (Int64.ofNat t3.1) (((3 - 1) + (-1)) + (-1))) &&& 1)) <<< ((1 : Int32) &&& 0x3f).toInt64) ||| ((XT.ushrL (Int64.ofNat t1.1) (((3 - 1) + (-1)) + (-1))) &&& 1)) <<< ((64 - (((((((((0 + 1) + 1) + 1) + 1) + 1) + 1) + 1) + 1) + 1) : Int32) &&& 0x3f).toInt64 = own_zz t1 t2 t3 := by decide +kernel
theorem own_k15 : ∀ t1 t2 t3 : Fin 8, 0 + (((0 + (((XT.ushrL (Int64.ofNat t1.1) (3 - 1)) &&& 1).toInt32)) + (((XT.ushrL (Int64.ofNat t2.1) (3 - 1)) &&& 1).toInt32)) + (((XT.ushrL (Int64.ofNat t3.1) (3 - 1)) &&& 1).toInt32)) = 2 → 2 + (((0 + (((XT.ushrL (Int64.ofNat t3.1) ((3 - 1) + (-1))) &&& 1).toInt32)) + (((XT.ushrL (Int64.ofNat t1.1) ((3 - 1) + (-1))) &&& 1).toInt32)) + (((XT.ushrL (Int64.ofNat t2.1) ((3 - 1) + (-1))) &&& 1).toInt32)) = 5 → (((((((((((((((((((0 : Int64) <<< ((1 : Int32) &&& 0x3f).toInt64) ||| ((XT.ushrL (Int64.ofNat t1.1) (3 - 1)) &&& 1)) <<< ((1 : Int32) &&& 0x3f).toInt64) ||| ((XT.ushrL (Int64.ofNat t2.1) (3 - 1)) &&& 1)) <<< ((1 : Int32) &&& 0x3f).toInt64) ||| ((XT.ushrL (Int64.ofNat t3.1) (3 - 1)) &&& 1)) <<< ((1 : Int32) &&& 0x3f).toInt64) ||| ((XT.ushrL (Int64.ofNat t3.1) ((3 - 1) + (-1))) &&& 1)) <<< ((1 : Int32) &&& 0x3f).toInt64) ||| ((XT.ushrL (Int64.ofNat t1.1) ((3 - 1) + (-1))) &&& 1)) <<< ((1 : Int32) &&& 0x3f).toInt64) ||| ((XT.ushrL (Int64.ofNat t2.1) ((3 - 1) + (-1))) &&& 1)) <<< ((1 : Int32) &&& 0x3f).toInt64) ||| ((XT.ushrL (Int64.ofNat t3.1) (((3 - 1) + (-1)) + (-1))) &&& 1)) <<< ((1 : Int32) &&& 0x3f).toInt64) ||| ((XT.ushrL (Int64.ofNat t1.1) (((3 - 1) + (-1)) + (-1))) &&& 1)) <<< ((1 : Int32) &&& 0x3f).toInt64) ||| ((XT.ushrL (Int64.ofNat t2.1) (((3 - 1) + (-1)) + (-1))) &&& 1)) <<< ((64 - (((((((((0 + 1) + 1) + 1) + 1) + 1) + 1) + 1) + 1) + 1) : Int32) &&& 0x3f).toInt64 = own_zz t1 t2 t3 := by decide +kernel
theorem own_k16 : ∀ t1 t2 t3 : Fin 8, (3 - 3) + (((0 + (((XT.ushrL (Int64.ofNat t1.1) ((3 - 1) + (-1))) &&& 1).toInt32)) + (((XT.ushrL (Int64.ofNat t2.1) ((3 - 1) + (-1))) &&& 1).toInt32)) + (((XT.ushrL (Int64.ofNat t3.1) ((3 - 1) + (-1))) &&& 1).toInt32)) = 0 ∨ (3 - 3) + (((0 + (((XT.ushrL (Int64.ofNat t1.1) ((3 - 1) + (-1))) &&& 1).toInt32)) + (((XT.ushrL (Int64.ofNat t2.1) ((3 - 1) + (-1))) &&& 1).toInt32)) + (((XT.ushrL (Int64.ofNat t3.1) ((3 - 1) + (-1))) &&& 1).toInt32)) = 1 ∨ (3 - 3) + (((0 + (((XT.ushrL (Int64.ofNat t1.1) ((3 - 1) + (-1))) &&& 1).toInt32)) + (((XT.ushrL (Int64.ofNat t2.1) ((3 - 1) + (-1))) &&& 1).toInt32)) + (((XT.ushrL (Int64.ofNat t3.1) ((3 - 1) + (-1))) &&& 1).toInt32)) = 2 ∨ (3 - 3) + (((0 + (((XT.ushrL (Int64.ofNat t1.1) ((3 - 1) + (-1))) &&& 1).toInt32)) + (((XT.ushrL (Int64.ofNat t2.1) ((3 - 1) + (-1))) &&& 1).toInt32)) + (((XT.ushrL (Int64.ofNat t3.1) ((3 - 1) + (-1))) &&& 1).toInt32)) = 3 := by decide +kernel
theorem own_k17 : ∀ t1 t2 t3 : Fin 8, 0 + (((0 + (((XT.ushrL (Int64.ofNat t1.1) (3 - 1)) &&& 1).toInt32)) + (((XT.ushrL (Int64.ofNat t2.1) (3 - 1)) &&& 1).toInt32)) + (((XT.ushrL (Int64.ofNat t3.1) (3 - 1)) &&& 1).toInt32)) = 3 → (3 - 3) + (((0 + (((XT.ushrL (Int64.ofNat t1.1) ((3 - 1) + (-1))) &&& 1).toInt32)) + (((XT.ushrL (Int64.ofNat t2.1) ((3 - 1) + (-1))) &&& 1).toInt32)) + (((XT.ushrL (Int64.ofNat t3.1) ((3 - 1) + (-1))) &&& 1).toInt32)) = 0 → (((((((((((((((((((0 : Int64) <<< ((1 : Int32) &&& 0x3f).toInt64) ||| ((XT.ushrL (Int64.ofNat t1.1) (3 - 1)) &&& 1)) <<< ((1 : Int32) &&& 0x3f).toInt64) ||| ((XT.ushrL (Int64.ofNat t2.1) (3 - 1)) &&& 1)) <<< ((1 : Int32) &&& 0x3f).toInt64) ||| ((XT.ushrL (Int64.ofNat t3.1) (3 - 1)) &&& 1)) <<< ((1 : Int32) &&& 0x3f).toInt64) ||| ((XT.ushrL (Int64.ofNat t1.1) ((3 - 1) + (-1))) &&& 1)) <<< ((1 : Int32) &&& 0x3f).toInt64) ||| ((XT.ushrL (Int64.ofNat t2.1) ((3 - 1) + (-1))) &&& 1)) <<< ((1 : Int32) &&& 0x3f).toInt64) ||| ((XT.ushrL (Int64.ofNat t3.1) ((3 - 1) + (-1))) &&& 1)) <<< ((1 : Int32) &&& 0x3f).toInt64) ||| ((XT.ushrL (Int64.ofNat t1.1) (((3 - 1) + (-1)) + (-1))) &&& 1)) <<< ((1 : Int32) &&& 0x3f).toInt64) ||| ((XT.ushrL (Int64.ofNat t2.1) (((3 - 1) + (-1)) + (-1))) &&& 1)) <<< ((1 : Int32) &&& 0x3f).toInt64) ||| ((XT.ushrL (Int64.ofNat t3.1) (((3 - 1) + (-1)) + (-1))) &&& 1)) <<< ((64 - (((((((((0 + 1) + 1) + 1) + 1) + 1) + 1) + 1) + 1) + 1) : Int32) &&& 0x3f).toInt64 = own_zz t1 t2 t3 := by decide +kernel
theorem own_k18 : ∀ t1 t2 t3 : Fin 8, 0 + (((0 + (((XT.ushrL (Int64.ofNat t1.1) (3 - 1)) &&& 1).toInt32)) + (((XT.ushrL (Int64.ofNat t2.1) (3 - 1)) &&& 1).toInt32)) + (((XT.ushrL (Int64.ofNat t3.1) (3 - 1)) &&& 1).toInt32)) = 3 → (3 - 3) + (((0 + (((XT.ushrL (Int64.ofNat t1.1) ((3 - 1) + (-1))) &&& 1).toInt32)) + (((XT.ushrL (Int64.ofNat t2.1) ((3 - 1) + (-1))) &&& 1).toInt32)) + (((XT.ushrL (Int64.ofNat t3.1) ((3 - 1) + (-1))) &&& 1).toInt32)) = 1 → (((((((((((((((((((0 : Int64) <<< ((1 : Int32) &&& 0x3f).toInt64) ||| ((XT.ushrL (Int64.ofNat t1.1) (3 - 1)) &&& 1)) <<< ((1 : Int32) &&& 0x3f).toInt64) ||| ((XT.ushrL (Int64.ofNat t2.1) (3 - 1)) &&& 1)) <<< ((1 : Int32) &&& 0x3f).toInt64) ||| ((XT.ushrL (Int64.ofNat t3.1) (3 - 1)) &&& 1)) <<< ((1 : Int32) &&& 0x3f).toInt64) ||| ((XT.ushrL (Int64.ofNat t1.1) ((3 - 1) + (-1))) &&& 1)) <<< ((1 : Int32) &&& 0x3f).toInt64) ||| ((XT.ushrL (Int64.ofNat t2.1) ((3 - 1) + (-1))) &&& 1)) <<< ((1 : Int32) &&& 0x3f).toInt64) ||| ((XT.ushrL (Int64.ofNat t3.1) ((3 - 1) + (-1))) &&& 1)) <<< ((1 : Int32) &&& 0x3f).toInt64) ||| ((XT.ushrL (Int64.ofNat t2.1) (((3 - 1) + (-1)) + (-1))) &&& 1)) <<< ((1 : Int32) &&& 0x3f).toInt64) ||| ((XT.ushrL (Int64.ofNat t3.1) (((3 - 1) + (-1)) + (-1))) &&& 1)) <<< ((1 : Int32) &&& 0x3f).toInt64) ||| ((XT.ushrL (Int64.ofNat t1.1) (((3 - 1) + (-1)) + (-1))) &&& 1)) <<< ((64 - (((((((((0 + 1) + 1) + 1) + 1) + 1) + 1) + 1) + 1) + 1) : Int32) &&& 0x3f).toInt64 = own_zz t1 t2 t3 := by decide +kernel
theorem own_k19 : ∀ t1 t2 t3 : Fin 8, 0 + (((0 + (((XT.ushrL (Int64.ofNat t1.1) (3 - 1)) &&& 1).toInt32)) + (((XT.ushrL (Int64.ofNat t2.1) (3 - 1)) &&& 1).toInt32)) + (((XT.ushrL (Int64.ofNat t3.1) (3 - 1)) &&& 1).toInt32)) = 3 → (3 - 3) + (((0 + (((XT.ushrL (Int64.ofNat t1.1) ((3 - 1) + (-1))) &&& 1).toInt32)) + (((XT.ushrL (Int64.ofNat t2.1) ((3 - 1) + (-1))) &&& 1).toInt32)) + (((XT.ushrL (Int64.ofNat t3.1) ((3 - 1) + (-1))) &&& 1).toInt32)) = 2 → (((((((((((((((((((0 : Int64) <<< ((1 : Int32) &&& 0x3f).toInt64) ||| ((XT.ushrL (Int64.ofNat t1.1) (3 - 1)) &&& 1)) <<< ((1 : Int32) &&& 0x3f).toInt64) ||| ((XT.ushrL (Int64.ofNat t2.1) (3 - 1)) &&& 1)) <<< ((1 : Int32) &&& 0x3f).toInt64) ||| ((XT.ushrL (Int64.ofNat t3.1) (3 - 1)) &&& 1)) <<< ((1 : Int32) &&& 0x3f).toInt64) ||| ((XT.ushrL (Int64.ofNat t1.1) ((3 - 1) + (-1))) &&& 1)) <<< ((1 : Int32) &&& 0x3f).toInt64) ||| ((XT.ushrL (Int64.ofNat t2.1) ((3 - 1) + (-1))) &&& 1)) <<< ((1 : Int32) &&& 0x3f).toInt64) ||| ((XT.ushrL (Int64.ofNat t3.1) ((3 - 1) + (-1))) &&& 1)) <<< ((1 : Int32) &&& 0x3f).toInt64) ||| ((XT.ushrL (Int64.ofNat t3.1) (((3 - 1) + (-1)) + (-1))) &&& 1)) <<< ((1 : Int32) &&& 0x3f).toInt64) ||| ((XT.ushrL (Int64.ofNat t1.1) (((3 - 1) + (-1)) + (-1))) &&& 1)) <<< ((1 : Int32) &&& 0x3f).toInt64) ||| ((XT.ushrL (Int64.ofNat t2.1) (((3 - 1) + (-1)) + (-1))) &&& 1)) <<< ((64 - (((((((((0 + 1) + 1) + 1) + 1) + 1) + 1) + 1) + 1) + 1) : Int32) &&& 0x3f).toInt64 = own_zz t1 t2 t3 := by decide +kernel
theorem own_k20 : ∀ t1 t2 t3 : Fin 8, 0 + (((0 + (((XT.ushrL (Int64.ofNat t1.1) (3 - 1)) &&& 1).toInt32)) + (((XT.ushrL (Int64.ofNat t2.1) (3 - 1)) &&& 1).toInt32)) + (((XT.ushrL (Int64.ofNat t3.1) (3 - 1)) &&& 1).toInt32)) = 3 → (3 - 3) + (((0 + (((XT.ushrL (Int64.ofNat t1.1) ((3 - 1) + (-1))) &&& 1).toInt32)) + (((XT.ushrL (Int64.ofNat t2.1) ((3 - 1) + (-1))) &&& 1).toInt32)) + (((XT.ushrL (Int64.ofNat t3.1) ((3 - 1) + (-1))) &&& 1).toInt32)) = 3 → (((((((((((((((((((0 : Int64) <<< ((1 : Int32) &&& 0x3f).toInt64) ||| ((XT.ushrL (Int64.ofNat t1.1) (3 - 1)) &&& 1)) <<< ((1 : Int32) &&& 0x3f).toInt64) ||| ((XT.ushrL (Int64.ofNat t2.1) (3 - 1)) &&& 1)) <<< ((1 : Int32) &&& 0x3f).toInt64) ||| ((XT.ushrL (Int64.ofNat t3.1) (3 - 1)) &&& 1)) <<< ((1 : Int32) &&& 0x3f).toInt64) ||| ((XT.ushrL (Int64.ofNat t1.1) ((3 - 1) + (-1))) &&& 1)) <<< ((1 : Int32) &&& 0x3f).toInt64) ||| ((XT.ushrL (Int64.ofNat t2.1) ((3 - 1) + (-1))) &&& 1)) <<< ((1 : Int32) &&& 0x3f).toInt64) ||| ((XT.ushrL (Int64.ofNat t3.1) ((3 - 1) + (-1))) &&& 1)) <<< ((1 : Int32) &&& 0x3f).toInt64) ||| ((XT.ushrL (Int64.ofNat t1.1) (((3 - 1) + (-1)) + (-1))) &&& 1)) <<< ((1 : Int32) &&& 0x3f).toInt64) ||| ((XT.ushrL (Int64.ofNat t2.1) (((3 - 1) + (-1)) + (-1))) &&& 1)) <<< ((1 : Int32) &&& 0x3f).toInt64) ||| ((XT.ushrL (Int64.ofNat t3.1) (((3 - 1) + (-1)) + (-1))) &&& 1)) <<< ((64 - (((((((((0 + 1) + 1) + 1) + 1) + 1) + 1) + 1) + 1) + 1) : Int32) &&& 0x3f).toInt64 = own_zz t1 t2 t3 := by decide +kernel
set_option maxRecDepth 65536 in
set_option maxHeartbeats 40000000 in
theorem w3b {l : Launch} {Z : State} {a0 : Array Value} {n : Nat} (hw : ∀ d ∈ tables_1, d.before a0 Z = true) (t1 t2 t3 : Fin 8) : W l Z n m3 0 (entryL [.ref 0, .ref 1] 14) [] [.inl ("com/example/reshelve/reshelve/service/sort/ZCurve", [(("com/example/reshelve/reshelve/service/sort/ZCurve", "dimensions", "I"), (.int (3))), (("com/example/reshelve/reshelve/service/sort/ZCurve", "bits", "I"), (.int (3))), (("com/example/reshelve/reshelve/service/sort/ZCurve", "words", "I"), (.int (1)))]), .inr (.long, [(.long (Int64.ofNat t1.1)), (.long (Int64.ofNat t2.1)), (.long (Int64.ofNat t3.1))])] 0 0 (Is (some (.ref 2)) [.inl ("com/example/reshelve/reshelve/service/sort/ZCurve", [(("com/example/reshelve/reshelve/service/sort/ZCurve", "dimensions", "I"), (.int (3))), (("com/example/reshelve/reshelve/service/sort/ZCurve", "bits", "I"), (.int (3))), (("com/example/reshelve/reshelve/service/sort/ZCurve", "words", "I"), (.int (1)))]), .inr (.long, [(.long (Int64.ofNat t1.1)), (.long (Int64.ofNat t2.1)), (.long (Int64.ofNat t3.1))]), .inr (.long, [(.long (own_zz t1 t2 t3))])]) := by
  show W l Z n m3 0 [(.val (.ref 0)), (.val (.ref 1)), .unset, .unset, .unset, .unset, .unset, .unset, .unset, .unset, .unset, .unset, .unset, .unset] [] [.inl ("com/example/reshelve/reshelve/service/sort/ZCurve", [(("com/example/reshelve/reshelve/service/sort/ZCurve", "dimensions", "I"), (.int (3))), (("com/example/reshelve/reshelve/service/sort/ZCurve", "bits", "I"), (.int (3))), (("com/example/reshelve/reshelve/service/sort/ZCurve", "words", "I"), (.int (1)))]), .inr (.long, [(.long (Int64.ofNat t1.1)), (.long (Int64.ofNat t2.1)), (.long (Int64.ofNat t3.1))])] 0 0 _
  refine W.aloadN d3_0 rfl rfl ?_
  refine W.getfield 2 d3_1 (hw _ (wd 15 rfl)) rfl rfl ?_
  refine W.newarray (N := 2) (cnt := 1) (cap := 1) d3_4 (hw _ (wd 17 rfl)) ⟨by decide, by decide⟩ rfl (Nat.le_refl _) (by decide) (by decide) (by decide) ?_
  refine W.astoreN d3_6 rfl rfl ?_
  refine W.lconst 0 d3_7 rfl ?_
  refine W.lstoreN d3_8 rfl ?_
  refine W.iconst 0 d3_9 rfl ?_
  refine W.istore d3_10 rfl ?_
  show WB _ l Z n m3 12 [(.val (.ref 0)), (.val (.ref 1)), (.val (.ref 2)), (.val (.long (0))), .second, (.val (.int (0))), .unset, .unset, .unset, .unset, .unset, .unset, .unset, .unset] [] [.inl ("com/example/reshelve/reshelve/service/sort/ZCurve", [(("com/example/reshelve/reshelve/service/sort/ZCurve", "dimensions", "I"), (.int (3))), (("com/example/reshelve/reshelve/service/sort/ZCurve", "bits", "I"), (.int (3))), (("com/example/reshelve/reshelve/service/sort/ZCurve", "words", "I"), (.int (1)))]), .inr (.long, [(.long (Int64.ofNat t1.1)), (.long (Int64.ofNat t2.1)), (.long (Int64.ofNat t3.1))]), .inr (.long, [(.long (0))])] _ _ _
  refine W.iconst 0 d3_12 rfl ?_
  refine W.istore d3_13 rfl ?_
  refine W.iconst 0 d3_15 rfl ?_
  refine W.istore d3_16 rfl ?_
  refine W.aloadN d3_18 rfl rfl ?_
  refine W.getfield 1 d3_19 (hw _ (wd 12 rfl)) rfl rfl ?_
  refine W.iconst 1 d3_22 rfl ?_
  refine W.isub d3_23 ?_
  refine W.istore d3_24 rfl ?_
  refine W.iload d3_26 rfl ?_
  refine W.if_lt d3_28 (fun h => False.elim (by revert h; decide)) (fun h28 => ?_)
  refine W.iconst 0 d3_31 rfl ?_
  refine W.istore d3_32 rfl ?_
  show WB _ l Z n m3 34 [(.val (.ref 0)), (.val (.ref 1)), (.val (.ref 2)), (.val (.long (0))), .second, (.val (.int (0))), (.val (.int (0))), (.val (.int (0))), (.val (.int (3 - 1))), (.val (.int (0))), .unset, .unset, .unset, .unset] [] [.inl ("com/example/reshelve/reshelve/service/sort/ZCurve", [(("com/example/reshelve/reshelve/service/sort/ZCurve", "dimensions", "I"), (.int (3))), (("com/example/reshelve/reshelve/service/sort/ZCurve", "bits", "I"), (.int (3))), (("com/example/reshelve/reshelve/service/sort/ZCurve", "words", "I"), (.int (1)))]), .inr (.long, [(.long (Int64.ofNat t1.1)), (.long (Int64.ofNat t2.1)), (.long (Int64.ofNat t3.1))]), .inr (.long, [(.long (0))])] _ _ _
  refine W.iload d3_34 rfl ?_
  refine W.istore d3_36 rfl ?_
  refine W.iconst 0 d3_38 rfl ?_
  refine W.istore d3_39 rfl ?_
  show W l Z n m3 41 [(.val (.ref 0)), (.val (.ref 1)), (.val (.ref 2)), (.val (.long (0))), .second, (.val (.int (0))), (.val (.int (0))), (.val (.int (0))), (.val (.int (3 - 1))), (.val (.int (0))), (.val (.int (0))), (.val (.int (0))), .unset, .unset] [] [.inl ("com/example/reshelve/reshelve/service/sort/ZCurve", [(("com/example/reshelve/reshelve/service/sort/ZCurve", "dimensions", "I"), (.int (3))), (("com/example/reshelve/reshelve/service/sort/ZCurve", "bits", "I"), (.int (3))), (("com/example/reshelve/reshelve/service/sort/ZCurve", "words", "I"), (.int (1)))]), .inr (.long, [(.long (Int64.ofNat t1.1)), (.long (Int64.ofNat t2.1)), (.long (Int64.ofNat t3.1))]), .inr (.long, [(.long (0))])] _ _ _
  refine W.iload d3_41 rfl ?_
  refine W.aloadN d3_43 rfl rfl ?_
  refine W.getfield 0 d3_44 (hw _ (wd 10 rfl)) rfl rfl ?_
  refine W.icmp_ge d3_47 (fun h => False.elim (by revert h; decide)) (fun h47 => ?_)
  refine W.aloadN d3_50 rfl rfl ?_
  refine W.iload d3_51 rfl ?_
  refine W.laload (i := 0) d3_53 rfl ⟨by decide, by decide⟩ rfl ?_
  refine W.iload d3_54 rfl ?_
  refine W.lushr d3_56 ?_
  refine W.lconst 1 d3_57 rfl ?_
  refine W.land d3_58 ?_
  refine W.lstore d3_59 rfl ?_
  refine W.lloadN d3_61 rfl ?_
  refine W.iconst 1 d3_62 rfl ?_
  refine W.lshl d3_63 ?_
  refine W.lload d3_64 rfl ?_
  refine W.lor d3_66 ?_
  refine W.lstoreN d3_67 rfl ?_
  show WB _ l Z n m3 68 [(.val (.ref 0)), (.val (.ref 1)), (.val (.ref 2)), (.val (.long (((0 : Int64) <<< ((1 : Int32) &&& 0x3f).toInt64) ||| ((XT.ushrL (Int64.ofNat t1.1) (3 - 1)) &&& 1)))), .second, (.val (.int (0))), (.val (.int (0))), (.val (.int (0))), (.val (.int (3 - 1))), (.val (.int (0))), (.val (.int (0))), (.val (.int (0))), (.val (.long ((XT.ushrL (Int64.ofNat t1.1) (3 - 1)) &&& 1))), .second] [] [.inl ("com/example/reshelve/reshelve/service/sort/ZCurve", [(("com/example/reshelve/reshelve/service/sort/ZCurve", "dimensions", "I"), (.int (3))), (("com/example/reshelve/reshelve/service/sort/ZCurve", "bits", "I"), (.int (3))), (("com/example/reshelve/reshelve/service/sort/ZCurve", "words", "I"), (.int (1)))]), .inr (.long, [(.long (Int64.ofNat t1.1)), (.long (Int64.ofNat t2.1)), (.long (Int64.ofNat t3.1))]), .inr (.long, [(.long (0))])] _ _ _
  refine W.iinc 1 d3_68 rfl rfl ?_
  refine W.iload d3_71 rfl ?_
  refine W.bipush 64 d3_73 rfl ?_
  refine W.icmp_ne d3_75 (fun h75 => ?_) (fun h => False.elim (by revert h; decide))
  refine W.iload d3_89 rfl ?_
  refine W.lload d3_91 rfl ?_
  refine W.l2i d3_93 ?_
  refine W.iadd d3_94 ?_
  refine W.istore d3_95 rfl ?_
  refine W.iload d3_97 rfl ?_
  refine W.iconst 1 d3_99 rfl ?_
  refine W.iadd d3_100 ?_
  refine W.aloadN d3_101 rfl rfl ?_
  refine W.getfield 0 d3_102 (hw _ (wd 10 rfl)) rfl rfl ?_
  refine W.icmp_ne d3_105 (fun h105 => ?_) (fun h => False.elim (by revert h; decide))
  refine W.iload d3_112 rfl ?_
  refine W.iconst 1 d3_114 rfl ?_
  refine W.iadd d3_115 ?_
  refine W.istore d3_116 rfl ?_
  refine W.iinc 1 d3_118 rfl rfl ?_
  show WB _ l Z n m3 121 [(.val (.ref 0)), (.val (.ref 1)), (.val (.ref 2)), (.val (.long (((0 : Int64) <<< ((1 : Int32) &&& 0x3f).toInt64) ||| ((XT.ushrL (Int64.ofNat t1.1) (3 - 1)) &&& 1)))), .second, (.val (.int (0 + 1))), (.val (.int (0))), (.val (.int (0))), (.val (.int (3 - 1))), (.val (.int (0 + (((XT.ushrL (Int64.ofNat t1.1) (3 - 1)) &&& 1).toInt32)))), (.val (.int (0 + 1))), (.val (.int (0 + 1))), (.val (.long ((XT.ushrL (Int64.ofNat t1.1) (3 - 1)) &&& 1))), .second] [] [.inl ("com/example/reshelve/reshelve/service/sort/ZCurve", [(("com/example/reshelve/reshelve/service/sort/ZCurve", "dimensions", "I"), (.int (3))), (("com/example/reshelve/reshelve/service/sort/ZCurve", "bits", "I"), (.int (3))), (("com/example/reshelve/reshelve/service/sort/ZCurve", "words", "I"), (.int (1)))]), .inr (.long, [(.long (Int64.ofNat t1.1)), (.long (Int64.ofNat t2.1)), (.long (Int64.ofNat t3.1))]), .inr (.long, [(.long (0))])] _ _ _
  refine W.goto d3_121 ?_
  show W l Z n m3 41 [(.val (.ref 0)), (.val (.ref 1)), (.val (.ref 2)), (.val (.long (((0 : Int64) <<< ((1 : Int32) &&& 0x3f).toInt64) ||| ((XT.ushrL (Int64.ofNat t1.1) (3 - 1)) &&& 1)))), .second, (.val (.int (0 + 1))), (.val (.int (0))), (.val (.int (0))), (.val (.int (3 - 1))), (.val (.int (0 + (((XT.ushrL (Int64.ofNat t1.1) (3 - 1)) &&& 1).toInt32)))), (.val (.int (0 + 1))), (.val (.int (0 + 1))), (.val (.long ((XT.ushrL (Int64.ofNat t1.1) (3 - 1)) &&& 1))), .second] [] [.inl ("com/example/reshelve/reshelve/service/sort/ZCurve", [(("com/example/reshelve/reshelve/service/sort/ZCurve", "dimensions", "I"), (.int (3))), (("com/example/reshelve/reshelve/service/sort/ZCurve", "bits", "I"), (.int (3))), (("com/example/reshelve/reshelve/service/sort/ZCurve", "words", "I"), (.int (1)))]), .inr (.long, [(.long (Int64.ofNat t1.1)), (.long (Int64.ofNat t2.1)), (.long (Int64.ofNat t3.1))]), .inr (.long, [(.long (0))])] _ _ _
  refine W.iload d3_41 rfl ?_
  refine W.aloadN d3_43 rfl rfl ?_
  refine W.getfield 0 d3_44 (hw _ (wd 10 rfl)) rfl rfl ?_
  refine W.icmp_ge d3_47 (fun h => False.elim (by revert h; decide)) (fun h47 => ?_)
  refine W.aloadN d3_50 rfl rfl ?_
  refine W.iload d3_51 rfl ?_
  refine W.laload (i := 1) d3_53 rfl ⟨by decide, by decide⟩ rfl ?_
  refine W.iload d3_54 rfl ?_
  refine W.lushr d3_56 ?_
  refine W.lconst 1 d3_57 rfl ?_
  refine W.land d3_58 ?_
  refine W.lstore d3_59 rfl ?_
  refine W.lloadN d3_61 rfl ?_
  refine W.iconst 1 d3_62 rfl ?_
  refine W.lshl d3_63 ?_
  refine W.lload d3_64 rfl ?_
  refine W.lor d3_66 ?_
  refine W.lstoreN d3_67 rfl ?_
  refine W.iinc 1 d3_68 rfl rfl ?_
  refine W.iload d3_71 rfl ?_
  refine W.bipush 64 d3_73 rfl ?_
  refine W.icmp_ne d3_75 (fun h75 => ?_) (fun h => False.elim (by revert h; decide))
  refine W.iload d3_89 rfl ?_
  refine W.lload d3_91 rfl ?_
  refine W.l2i d3_93 ?_
  refine W.iadd d3_94 ?_
  refine W.istore d3_95 rfl ?_
  show WB _ l Z n m3 97 [(.val (.ref 0)), (.val (.ref 1)), (.val (.ref 2)), (.val (.long (((((0 : Int64) <<< ((1 : Int32) &&& 0x3f).toInt64) ||| ((XT.ushrL (Int64.ofNat t1.1) (3 - 1)) &&& 1)) <<< ((1 : Int32) &&& 0x3f).toInt64) ||| ((XT.ushrL (Int64.ofNat t2.1) (3 - 1)) &&& 1)))), .second, (.val (.int ((0 + 1) + 1))), (.val (.int (0))), (.val (.int (0))), (.val (.int (3 - 1))), (.val (.int ((0 + (((XT.ushrL (Int64.ofNat t1.1) (3 - 1)) &&& 1).toInt32)) + (((XT.ushrL (Int64.ofNat t2.1) (3 - 1)) &&& 1).toInt32)))), (.val (.int (0 + 1))), (.val (.int (0 + 1))), (.val (.long ((XT.ushrL (Int64.ofNat t2.1) (3 - 1)) &&& 1))), .second] [] [.inl ("com/example/reshelve/reshelve/service/sort/ZCurve", [(("com/example/reshelve/reshelve/service/sort/ZCurve", "dimensions", "I"), (.int (3))), (("com/example/reshelve/reshelve/service/sort/ZCurve", "bits", "I"), (.int (3))), (("com/example/reshelve/reshelve/service/sort/ZCurve", "words", "I"), (.int (1)))]), .inr (.long, [(.long (Int64.ofNat t1.1)), (.long (Int64.ofNat t2.1)), (.long (Int64.ofNat t3.1))]), .inr (.long, [(.long (0))])] _ _ _
  refine W.iload d3_97 rfl ?_
  refine W.iconst 1 d3_99 rfl ?_
  refine W.iadd d3_100 ?_
  refine W.aloadN d3_101 rfl rfl ?_
  refine W.getfield 0 d3_102 (hw _ (wd 10 rfl)) rfl rfl ?_
  refine W.icmp_ne d3_105 (fun h105 => ?_) (fun h => False.elim (by revert h; decide))
  refine W.iload d3_112 rfl ?_
  refine W.iconst 1 d3_114 rfl ?_
  refine W.iadd d3_115 ?_
  refine W.istore d3_116 rfl ?_
  refine W.iinc 1 d3_118 rfl rfl ?_
  refine W.goto d3_121 ?_
  show W l Z n m3 41 [(.val (.ref 0)), (.val (.ref 1)), (.val (.ref 2)), (.val (.long (((((0 : Int64) <<< ((1 : Int32) &&& 0x3f).toInt64) ||| ((XT.ushrL (Int64.ofNat t1.1) (3 - 1)) &&& 1)) <<< ((1 : Int32) &&& 0x3f).toInt64) ||| ((XT.ushrL (Int64.ofNat t2.1) (3 - 1)) &&& 1)))), .second, (.val (.int ((0 + 1) + 1))), (.val (.int (0))), (.val (.int (0))), (.val (.int (3 - 1))), (.val (.int ((0 + (((XT.ushrL (Int64.ofNat t1.1) (3 - 1)) &&& 1).toInt32)) + (((XT.ushrL (Int64.ofNat t2.1) (3 - 1)) &&& 1).toInt32)))), (.val (.int ((0 + 1) + 1))), (.val (.int ((0 + 1) + 1))), (.val (.long ((XT.ushrL (Int64.ofNat t2.1) (3 - 1)) &&& 1))), .second] [] [.inl ("com/example/reshelve/reshelve/service/sort/ZCurve", [(("com/example/reshelve/reshelve/service/sort/ZCurve", "dimensions", "I"), (.int (3))), (("com/example/reshelve/reshelve/service/sort/ZCurve", "bits", "I"), (.int (3))), (("com/example/reshelve/reshelve/service/sort/ZCurve", "words", "I"), (.int (1)))]), .inr (.long, [(.long (Int64.ofNat t1.1)), (.long (Int64.ofNat t2.1)), (.long (Int64.ofNat t3.1))]), .inr (.long, [(.long (0))])] _ _ _
  refine W.iload d3_41 rfl ?_
  refine W.aloadN d3_43 rfl rfl ?_
  refine W.getfield 0 d3_44 (hw _ (wd 10 rfl)) rfl rfl ?_
  refine W.icmp_ge d3_47 (fun h => False.elim (by revert h; decide)) (fun h47 => ?_)
  refine W.aloadN d3_50 rfl rfl ?_
  refine W.iload d3_51 rfl ?_
  refine W.laload (i := 2) d3_53 rfl ⟨by decide, by decide⟩ rfl ?_
  refine W.iload d3_54 rfl ?_
  refine W.lushr d3_56 ?_
  refine W.lconst 1 d3_57 rfl ?_
  refine W.land d3_58 ?_
  refine W.lstore d3_59 rfl ?_
  refine W.lloadN d3_61 rfl ?_
  refine W.iconst 1 d3_62 rfl ?_
  refine W.lshl d3_63 ?_
  refine W.lload d3_64 rfl ?_
  refine W.lor d3_66 ?_
  refine W.lstoreN d3_67 rfl ?_
  show WB _ l Z n m3 68 [(.val (.ref 0)), (.val (.ref 1)), (.val (.ref 2)), (.val (.long (((((((0 : Int64) <<< ((1 : Int32) &&& 0x3f).toInt64) ||| ((XT.ushrL (Int64.ofNat t1.1) (3 - 1)) &&& 1)) <<< ((1 : Int32) &&& 0x3f).toInt64) ||| ((XT.ushrL (Int64.ofNat t2.1) (3 - 1)) &&& 1)) <<< ((1 : Int32) &&& 0x3f).toInt64) ||| ((XT.ushrL (Int64.ofNat t3.1) (3 - 1)) &&& 1)))), .second, (.val (.int ((0 + 1) + 1))), (.val (.int (0))), (.val (.int (0))), (.val (.int (3 - 1))), (.val (.int ((0 + (((XT.ushrL (Int64.ofNat t1.1) (3 - 1)) &&& 1).toInt32)) + (((XT.ushrL (Int64.ofNat t2.1) (3 - 1)) &&& 1).toInt32)))), (.val (.int ((0 + 1) + 1))), (.val (.int ((0 + 1) + 1))), (.val (.long ((XT.ushrL (Int64.ofNat t3.1) (3 - 1)) &&& 1))), .second] [] [.inl ("com/example/reshelve/reshelve/service/sort/ZCurve", [(("com/example/reshelve/reshelve/service/sort/ZCurve", "dimensions", "I"), (.int (3))), (("com/example/reshelve/reshelve/service/sort/ZCurve", "bits", "I"), (.int (3))), (("com/example/reshelve/reshelve/service/sort/ZCurve", "words", "I"), (.int (1)))]), .inr (.long, [(.long (Int64.ofNat t1.1)), (.long (Int64.ofNat t2.1)), (.long (Int64.ofNat t3.1))]), .inr (.long, [(.long (0))])] _ _ _
  refine W.iinc 1 d3_68 rfl rfl ?_
  refine W.iload d3_71 rfl ?_
  refine W.bipush 64 d3_73 rfl ?_
  refine W.icmp_ne d3_75 (fun h75 => ?_) (fun h => False.elim (by revert h; decide))
  refine W.iload d3_89 rfl ?_
  refine W.lload d3_91 rfl ?_
  refine W.l2i d3_93 ?_
  refine W.iadd d3_94 ?_
  refine W.istore d3_95 rfl ?_
  refine W.iload d3_97 rfl ?_
  refine W.iconst 1 d3_99 rfl ?_
  refine W.iadd d3_100 ?_
  refine W.aloadN d3_101 rfl rfl ?_
  refine W.getfield 0 d3_102 (hw _ (wd 10 rfl)) rfl rfl ?_
  refine W.icmp_ne d3_105 (fun h => False.elim (by revert h; decide)) (fun h105 => ?_)
  refine W.iconst 0 d3_108 rfl ?_
  refine W.goto d3_109 ?_
  refine W.istore d3_116 rfl ?_
  refine W.iinc 1 d3_118 rfl rfl ?_
  show WB _ l Z n m3 121 [(.val (.ref 0)), (.val (.ref 1)), (.val (.ref 2)), (.val (.long (((((((0 : Int64) <<< ((1 : Int32) &&& 0x3f).toInt64) ||| ((XT.ushrL (Int64.ofNat t1.1) (3 - 1)) &&& 1)) <<< ((1 : Int32) &&& 0x3f).toInt64) ||| ((XT.ushrL (Int64.ofNat t2.1) (3 - 1)) &&& 1)) <<< ((1 : Int32) &&& 0x3f).toInt64) ||| ((XT.ushrL (Int64.ofNat t3.1) (3 - 1)) &&& 1)))), .second, (.val (.int (((0 + 1) + 1) + 1))), (.val (.int (0))), (.val (.int (0))), (.val (.int (3 - 1))), (.val (.int (((0 + (((XT.ushrL (Int64.ofNat t1.1) (3 - 1)) &&& 1).toInt32)) + (((XT.ushrL (Int64.ofNat t2.1) (3 - 1)) &&& 1).toInt32)) + (((XT.ushrL (Int64.ofNat t3.1) (3 - 1)) &&& 1).toInt32)))), (.val (.int (0))), (.val (.int (((0 + 1) + 1) + 1))), (.val (.long ((XT.ushrL (Int64.ofNat t3.1) (3 - 1)) &&& 1))), .second] [] [.inl ("com/example/reshelve/reshelve/service/sort/ZCurve", [(("com/example/reshelve/reshelve/service/sort/ZCurve", "dimensions", "I"), (.int (3))), (("com/example/reshelve/reshelve/service/sort/ZCurve", "bits", "I"), (.int (3))), (("com/example/reshelve/reshelve/service/sort/ZCurve", "words", "I"), (.int (1)))]), .inr (.long, [(.long (Int64.ofNat t1.1)), (.long (Int64.ofNat t2.1)), (.long (Int64.ofNat t3.1))]), .inr (.long, [(.long (0))])] _ _ _
  refine W.goto d3_121 ?_
  show W l Z n m3 41 [(.val (.ref 0)), (.val (.ref 1)), (.val (.ref 2)), (.val (.long (((((((0 : Int64) <<< ((1 : Int32) &&& 0x3f).toInt64) ||| ((XT.ushrL (Int64.ofNat t1.1) (3 - 1)) &&& 1)) <<< ((1 : Int32) &&& 0x3f).toInt64) ||| ((XT.ushrL (Int64.ofNat t2.1) (3 - 1)) &&& 1)) <<< ((1 : Int32) &&& 0x3f).toInt64) ||| ((XT.ushrL (Int64.ofNat t3.1) (3 - 1)) &&& 1)))), .second, (.val (.int (((0 + 1) + 1) + 1))), (.val (.int (0))), (.val (.int (0))), (.val (.int (3 - 1))), (.val (.int (((0 + (((XT.ushrL (Int64.ofNat t1.1) (3 - 1)) &&& 1).toInt32)) + (((XT.ushrL (Int64.ofNat t2.1) (3 - 1)) &&& 1).toInt32)) + (((XT.ushrL (Int64.ofNat t3.1) (3 - 1)) &&& 1).toInt32)))), (.val (.int (0))), (.val (.int (((0 + 1) + 1) + 1))), (.val (.long ((XT.ushrL (Int64.ofNat t3.1) (3 - 1)) &&& 1))), .second] [] [.inl ("com/example/reshelve/reshelve/service/sort/ZCurve", [(("com/example/reshelve/reshelve/service/sort/ZCurve", "dimensions", "I"), (.int (3))), (("com/example/reshelve/reshelve/service/sort/ZCurve", "bits", "I"), (.int (3))), (("com/example/reshelve/reshelve/service/sort/ZCurve", "words", "I"), (.int (1)))]), .inr (.long, [(.long (Int64.ofNat t1.1)), (.long (Int64.ofNat t2.1)), (.long (Int64.ofNat t3.1))]), .inr (.long, [(.long (0))])] _ _ _
  refine W.iload d3_41 rfl ?_
  refine W.aloadN d3_43 rfl rfl ?_
  refine W.getfield 0 d3_44 (hw _ (wd 10 rfl)) rfl rfl ?_
  refine W.icmp_ge d3_47 (fun h47 => ?_) (fun h => False.elim (by revert h; decide))
  refine W.iload d3_124 rfl ?_
  refine W.iload d3_126 rfl ?_
  refine W.iadd d3_128 ?_
  rcases own_k0 t1 t2 t3 with q0 | q0 | q0 | q0
  · rw [q0]
    refine W.istore d3_129 rfl ?_
    refine W.iload d3_131 rfl ?_
    refine W.aloadN d3_133 rfl rfl ?_
    refine W.getfield 0 d3_134 (hw _ (wd 10 rfl)) rfl rfl ?_
    refine W.icmp_lt d3_137 (fun h137 => ?_) (fun h => False.elim (by revert h; decide))
    refine W.iinc (-1) d3_149 rfl rfl ?_
    refine W.goto d3_152 ?_
    refine W.iload d3_26 rfl ?_
    refine W.if_lt d3_28 (fun h => False.elim (by revert h; decide)) (fun h28 => ?_)
    refine W.iconst 0 d3_31 rfl ?_
    refine W.istore d3_32 rfl ?_
    refine W.iload d3_34 rfl ?_
    refine W.istore d3_36 rfl ?_
    show WB _ l Z n m3 38 [(.val (.ref 0)), (.val (.ref 1)), (.val (.ref 2)), (.val (.long (((((((0 : Int64) <<< ((1 : Int32) &&& 0x3f).toInt64) ||| ((XT.ushrL (Int64.ofNat t1.1) (3 - 1)) &&& 1)) <<< ((1 : Int32) &&& 0x3f).toInt64) ||| ((XT.ushrL (Int64.ofNat t2.1) (3 - 1)) &&& 1)) <<< ((1 : Int32) &&& 0x3f).toInt64) ||| ((XT.ushrL (Int64.ofNat t3.1) (3 - 1)) &&& 1)))), .second, (.val (.int (((0 + 1) + 1) + 1))), (.val (.int (0))), (.val (.int (0))), (.val (.int ((3 - 1) + (-1)))), (.val (.int (0))), (.val (.int (0))), (.val (.int (((0 + 1) + 1) + 1))), (.val (.long ((XT.ushrL (Int64.ofNat t3.1) (3 - 1)) &&& 1))), .second] [] [.inl ("com/example/reshelve/reshelve/service/sort/ZCurve", [(("com/example/reshelve/reshelve/service/sort/ZCurve", "dimensions", "I"), (.int (3))), (("com/example/reshelve/reshelve/service/sort/ZCurve", "bits", "I"), (.int (3))), (("com/example/reshelve/reshelve/service/sort/ZCurve", "words", "I"), (.int (1)))]), .inr (.long, [(.long (Int64.ofNat t1.1)), (.long (Int64.ofNat t2.1)), (.long (Int64.ofNat t3.1))]), .inr (.long, [(.long (0))])] _ _ _
    refine W.iconst 0 d3_38 rfl ?_
    refine W.istore d3_39 rfl ?_
    show W l Z n m3 41 [(.val (.ref 0)), (.val (.ref 1)), (.val (.ref 2)), (.val (.long (((((((0 : Int64) <<< ((1 : Int32) &&& 0x3f).toInt64) ||| ((XT.ushrL (Int64.ofNat t1.1) (3 - 1)) &&& 1)) <<< ((1 : Int32) &&& 0x3f).toInt64) ||| ((XT.ushrL (Int64.ofNat t2.1) (3 - 1)) &&& 1)) <<< ((1 : Int32) &&& 0x3f).toInt64) ||| ((XT.ushrL (Int64.ofNat t3.1) (3 - 1)) &&& 1)))), .second, (.val (.int (((0 + 1) + 1) + 1))), (.val (.int (0))), (.val (.int (0))), (.val (.int ((3 - 1) + (-1)))), (.val (.int (0))), (.val (.int (0))), (.val (.int (0))), (.val (.long ((XT.ushrL (Int64.ofNat t3.1) (3 - 1)) &&& 1))), .second] [] [.inl ("com/example/reshelve/reshelve/service/sort/ZCurve", [(("com/example/reshelve/reshelve/service/sort/ZCurve", "dimensions", "I"), (.int (3))), (("com/example/reshelve/reshelve/service/sort/ZCurve", "bits", "I"), (.int (3))), (("com/example/reshelve/reshelve/service/sort/ZCurve", "words", "I"), (.int (1)))]), .inr (.long, [(.long (Int64.ofNat t1.1)), (.long (Int64.ofNat t2.1)), (.long (Int64.ofNat t3.1))]), .inr (.long, [(.long (0))])] _ _ _
    refine W.iload d3_41 rfl ?_
    refine W.aloadN d3_43 rfl rfl ?_
    refine W.getfield 0 d3_44 (hw _ (wd 10 rfl)) rfl rfl ?_
    refine W.icmp_ge d3_47 (fun h => False.elim (by revert h; decide)) (fun h47 => ?_)
    refine W.aloadN d3_50 rfl rfl ?_
    refine W.iload d3_51 rfl ?_
    refine W.laload (i := 0) d3_53 rfl ⟨by decide, by decide⟩ rfl ?_
    refine W.iload d3_54 rfl ?_
    refine W.lushr d3_56 ?_
    refine W.lconst 1 d3_57 rfl ?_
    refine W.land d3_58 ?_
    refine W.lstore d3_59 rfl ?_
    refine W.lloadN d3_61 rfl ?_
    refine W.iconst 1 d3_62 rfl ?_
    refine W.lshl d3_63 ?_
    refine W.lload d3_64 rfl ?_
    refine W.lor d3_66 ?_
    refine W.lstoreN d3_67 rfl ?_
    refine W.iinc 1 d3_68 rfl rfl ?_
    show WB _ l Z n m3 71 [(.val (.ref 0)), (.val (.ref 1)), (.val (.ref 2)), (.val (.long (((((((((0 : Int64) <<< ((1 : Int32) &&& 0x3f).toInt64) ||| ((XT.ushrL (Int64.ofNat t1.1) (3 - 1)) &&& 1)) <<< ((1 : Int32) &&& 0x3f).toInt64) ||| ((XT.ushrL (Int64.ofNat t2.1) (3 - 1)) &&& 1)) <<< ((1 : Int32) &&& 0x3f).toInt64) ||| ((XT.ushrL (Int64.ofNat t3.1) (3 - 1)) &&& 1)) <<< ((1 : Int32) &&& 0x3f).toInt64) ||| ((XT.ushrL (Int64.ofNat t1.1) ((3 - 1) + (-1))) &&& 1)))), .second, (.val (.int ((((0 + 1) + 1) + 1) + 1))), (.val (.int (0))), (.val (.int (0))), (.val (.int ((3 - 1) + (-1)))), (.val (.int (0))), (.val (.int (0))), (.val (.int (0))), (.val (.long ((XT.ushrL (Int64.ofNat t1.1) ((3 - 1) + (-1))) &&& 1))), .second] [] [.inl ("com/example/reshelve/reshelve/service/sort/ZCurve", [(("com/example/reshelve/reshelve/service/sort/ZCurve", "dimensions", "I"), (.int (3))), (("com/example/reshelve/reshelve/service/sort/ZCurve", "bits", "I"), (.int (3))), (("com/example/reshelve/reshelve/service/sort/ZCurve", "words", "I"), (.int (1)))]), .inr (.long, [(.long (Int64.ofNat t1.1)), (.long (Int64.ofNat t2.1)), (.long (Int64.ofNat t3.1))]), .inr (.long, [(.long (0))])] _ _ _
    refine W.iload d3_71 rfl ?_
    refine W.bipush 64 d3_73 rfl ?_
    refine W.icmp_ne d3_75 (fun h75 => ?_) (fun h => False.elim (by revert h; decide))
    refine W.iload d3_89 rfl ?_
    refine W.lload d3_91 rfl ?_
    refine W.l2i d3_93 ?_
    refine W.iadd d3_94 ?_
    refine W.istore d3_95 rfl ?_
    refine W.iload d3_97 rfl ?_
    refine W.iconst 1 d3_99 rfl ?_
    refine W.iadd d3_100 ?_
    refine W.aloadN d3_101 rfl rfl ?_
    refine W.getfield 0 d3_102 (hw _ (wd 10 rfl)) rfl rfl ?_
    refine W.icmp_ne d3_105 (fun h105 => ?_) (fun h => False.elim (by revert h; decide))
    refine W.iload d3_112 rfl ?_
    refine W.iconst 1 d3_114 rfl ?_
    refine W.iadd d3_115 ?_
    refine W.istore d3_116 rfl ?_
    refine W.iinc 1 d3_118 rfl rfl ?_
    refine W.goto d3_121 ?_
    show W l Z n m3 41 [(.val (.ref 0)), (.val (.ref 1)), (.val (.ref 2)), (.val (.long (((((((((0 : Int64) <<< ((1 : Int32) &&& 0x3f).toInt64) ||| ((XT.ushrL (Int64.ofNat t1.1) (3 - 1)) &&& 1)) <<< ((1 : Int32) &&& 0x3f).toInt64) ||| ((XT.ushrL (Int64.ofNat t2.1) (3 - 1)) &&& 1)) <<< ((1 : Int32) &&& 0x3f).toInt64) ||| ((XT.ushrL (Int64.ofNat t3.1) (3 - 1)) &&& 1)) <<< ((1 : Int32) &&& 0x3f).toInt64) ||| ((XT.ushrL (Int64.ofNat t1.1) ((3 - 1) + (-1))) &&& 1)))), .second, (.val (.int ((((0 + 1) + 1) + 1) + 1))), (.val (.int (0))), (.val (.int (0))), (.val (.int ((3 - 1) + (-1)))), (.val (.int (0 + (((XT.ushrL (Int64.ofNat t1.1) ((3 - 1) + (-1))) &&& 1).toInt32)))), (.val (.int (0 + 1))), (.val (.int (0 + 1))), (.val (.long ((XT.ushrL (Int64.ofNat t1.1) ((3 - 1) + (-1))) &&& 1))), .second] [] [.inl ("com/example/reshelve/reshelve/service/sort/ZCurve", [(("com/example/reshelve/reshelve/service/sort/ZCurve", "dimensions", "I"), (.int (3))), (("com/example/reshelve/reshelve/service/sort/ZCurve", "bits", "I"), (.int (3))), (("com/example/reshelve/reshelve/service/sort/ZCurve", "words", "I"), (.int (1)))]), .inr (.long, [(.long (Int64.ofNat t1.1)), (.long (Int64.ofNat t2.1)), (.long (Int64.ofNat t3.1))]), .inr (.long, [(.long (0))])] _ _ _
    refine W.iload d3_41 rfl ?_
    refine W.aloadN d3_43 rfl rfl ?_
    refine W.getfield 0 d3_44 (hw _ (wd 10 rfl)) rfl rfl ?_
    refine W.icmp_ge d3_47 (fun h => False.elim (by revert h; decide)) (fun h47 => ?_)
    refine W.aloadN d3_50 rfl rfl ?_
    refine W.iload d3_51 rfl ?_
    refine W.laload (i := 1) d3_53 rfl ⟨by decide, by decide⟩ rfl ?_
    refine W.iload d3_54 rfl ?_
    refine W.lushr d3_56 ?_
    refine W.lconst 1 d3_57 rfl ?_
    refine W.land d3_58 ?_
    refine W.lstore d3_59 rfl ?_
    show WB _ l Z n m3 61 [(.val (.ref 0)), (.val (.ref 1)), (.val (.ref 2)), (.val (.long (((((((((0 : Int64) <<< ((1 : Int32) &&& 0x3f).toInt64) ||| ((XT.ushrL (Int64.ofNat t1.1) (3 - 1)) &&& 1)) <<< ((1 : Int32) &&& 0x3f).toInt64) ||| ((XT.ushrL (Int64.ofNat t2.1) (3 - 1)) &&& 1)) <<< ((1 : Int32) &&& 0x3f).toInt64) ||| ((XT.ushrL (Int64.ofNat t3.1) (3 - 1)) &&& 1)) <<< ((1 : Int32) &&& 0x3f).toInt64) ||| ((XT.ushrL (Int64.ofNat t1.1) ((3 - 1) + (-1))) &&& 1)))), .second, (.val (.int ((((0 + 1) + 1) + 1) + 1))), (.val (.int (0))), (.val (.int (0))), (.val (.int ((3 - 1) + (-1)))), (.val (.int (0 + (((XT.ushrL (Int64.ofNat t1.1) ((3 - 1) + (-1))) &&& 1).toInt32)))), (.val (.int (0 + 1))), (.val (.int (0 + 1))), (.val (.long ((XT.ushrL (Int64.ofNat t2.1) ((3 - 1) + (-1))) &&& 1))), .second] [] [.inl ("com/example/reshelve/reshelve/service/sort/ZCurve", [(("com/example/reshelve/reshelve/service/sort/ZCurve", "dimensions", "I"), (.int (3))), (("com/example/reshelve/reshelve/service/sort/ZCurve", "bits", "I"), (.int (3))), (("com/example/reshelve/reshelve/service/sort/ZCurve", "words", "I"), (.int (1)))]), .inr (.long, [(.long (Int64.ofNat t1.1)), (.long (Int64.ofNat t2.1)), (.long (Int64.ofNat t3.1))]), .inr (.long, [(.long (0))])] _ _ _
    refine W.lloadN d3_61 rfl ?_
    refine W.iconst 1 d3_62 rfl ?_
    refine W.lshl d3_63 ?_
    refine W.lload d3_64 rfl ?_
    refine W.lor d3_66 ?_
    refine W.lstoreN d3_67 rfl ?_
    refine W.iinc 1 d3_68 rfl rfl ?_
    refine W.iload d3_71 rfl ?_
    refine W.bipush 64 d3_73 rfl ?_
    refine W.icmp_ne d3_75 (fun h75 => ?_) (fun h => False.elim (by revert h; decide))
    refine W.iload d3_89 rfl ?_
    refine W.lload d3_91 rfl ?_
    refine W.l2i d3_93 ?_
    refine W.iadd d3_94 ?_
    refine W.istore d3_95 rfl ?_
    refine W.iload d3_97 rfl ?_
    refine W.iconst 1 d3_99 rfl ?_
    refine W.iadd d3_100 ?_
    refine W.aloadN d3_101 rfl rfl ?_
    refine W.getfield 0 d3_102 (hw _ (wd 10 rfl)) rfl rfl ?_
    refine W.icmp_ne d3_105 (fun h105 => ?_) (fun h => False.elim (by revert h; decide))
    refine W.iload d3_112 rfl ?_
    refine W.iconst 1 d3_114 rfl ?_
    refine W.iadd d3_115 ?_
    refine W.istore d3_116 rfl ?_
    show WB _ l Z n m3 118 [(.val (.ref 0)), (.val (.ref 1)), (.val (.ref 2)), (.val (.long (((((((((((0 : Int64) <<< ((1 : Int32) &&& 0x3f).toInt64) ||| ((XT.ushrL (Int64.ofNat t1.1) (3 - 1)) &&& 1)) <<< ((1 : Int32) &&& 0x3f).toInt64) ||| ((XT.ushrL (Int64.ofNat t2.1) (3 - 1)) &&& 1)) <<< ((1 : Int32) &&& 0x3f).toInt64) ||| ((XT.ushrL (Int64.ofNat t3.1) (3 - 1)) &&& 1)) <<< ((1 : Int32) &&& 0x3f).toInt64) ||| ((XT.ushrL (Int64.ofNat t1.1) ((3 - 1) + (-1))) &&& 1)) <<< ((1 : Int32) &&& 0x3f).toInt64) ||| ((XT.ushrL (Int64.ofNat t2.1) ((3 - 1) + (-1))) &&& 1)))), .second, (.val (.int (((((0 + 1) + 1) + 1) + 1) + 1))), (.val (.int (0))), (.val (.int (0))), (.val (.int ((3 - 1) + (-1)))), (.val (.int ((0 + (((XT.ushrL (Int64.ofNat t1.1) ((3 - 1) + (-1))) &&& 1).toInt32)) + (((XT.ushrL (Int64.ofNat t2.1) ((3 - 1) + (-1))) &&& 1).toInt32)))), (.val (.int ((0 + 1) + 1))), (.val (.int (0 + 1))), (.val (.long ((XT.ushrL (Int64.ofNat t2.1) ((3 - 1) + (-1))) &&& 1))), .second] [] [.inl ("com/example/reshelve/reshelve/service/sort/ZCurve", [(("com/example/reshelve/reshelve/service/sort/ZCurve", "dimensions", "I"), (.int (3))), (("com/example/reshelve/reshelve/service/sort/ZCurve", "bits", "I"), (.int (3))), (("com/example/reshelve/reshelve/service/sort/ZCurve", "words", "I"), (.int (1)))]), .inr (.long, [(.long (Int64.ofNat t1.1)), (.long (Int64.ofNat t2.1)), (.long (Int64.ofNat t3.1))]), .inr (.long, [(.long (0))])] _ _ _
    refine W.iinc 1 d3_118 rfl rfl ?_
    refine W.goto d3_121 ?_
    show W l Z n m3 41 [(.val (.ref 0)), (.val (.ref 1)), (.val (.ref 2)), (.val (.long (((((((((((0 : Int64) <<< ((1 : Int32) &&& 0x3f).toInt64) ||| ((XT.ushrL (Int64.ofNat t1.1) (3 - 1)) &&& 1)) <<< ((1 : Int32) &&& 0x3f).toInt64) ||| ((XT.ushrL (Int64.ofNat t2.1) (3 - 1)) &&& 1)) <<< ((1 : Int32) &&& 0x3f).toInt64) ||| ((XT.ushrL (Int64.ofNat t3.1) (3 - 1)) &&& 1)) <<< ((1 : Int32) &&& 0x3f).toInt64) ||| ((XT.ushrL (Int64.ofNat t1.1) ((3 - 1) + (-1))) &&& 1)) <<< ((1 : Int32) &&& 0x3f).toInt64) ||| ((XT.ushrL (Int64.ofNat t2.1) ((3 - 1) + (-1))) &&& 1)))), .second, (.val (.int (((((0 + 1) + 1) + 1) + 1) + 1))), (.val (.int (0))), (.val (.int (0))), (.val (.int ((3 - 1) + (-1)))), (.val (.int ((0 + (((XT.ushrL (Int64.ofNat t1.1) ((3 - 1) + (-1))) &&& 1).toInt32)) + (((XT.ushrL (Int64.ofNat t2.1) ((3 - 1) + (-1))) &&& 1).toInt32)))), (.val (.int ((0 + 1) + 1))), (.val (.int ((0 + 1) + 1))), (.val (.long ((XT.ushrL (Int64.ofNat t2.1) ((3 - 1) + (-1))) &&& 1))), .second] [] [.inl ("com/example/reshelve/reshelve/service/sort/ZCurve", [(("com/example/reshelve/reshelve/service/sort/ZCurve", "dimensions", "I"), (.int (3))), (("com/example/reshelve/reshelve/service/sort/ZCurve", "bits", "I"), (.int (3))), (("com/example/reshelve/reshelve/service/sort/ZCurve", "words", "I"), (.int (1)))]), .inr (.long, [(.long (Int64.ofNat t1.1)), (.long (Int64.ofNat t2.1)), (.long (Int64.ofNat t3.1))]), .inr (.long, [(.long (0))])] _ _ _
    refine W.iload d3_41 rfl ?_
    refine W.aloadN d3_43 rfl rfl ?_
    refine W.getfield 0 d3_44 (hw _ (wd 10 rfl)) rfl rfl ?_
    refine W.icmp_ge d3_47 (fun h => False.elim (by revert h; decide)) (fun h47 => ?_)
    refine W.aloadN d3_50 rfl rfl ?_
    refine W.iload d3_51 rfl ?_
    refine W.laload (i := 2) d3_53 rfl ⟨by decide, by decide⟩ rfl ?_
    refine W.iload d3_54 rfl ?_
    refine W.lushr d3_56 ?_
    refine W.lconst 1 d3_57 rfl ?_
    refine W.land d3_58 ?_
    refine W.lstore d3_59 rfl ?_
    refine W.lloadN d3_61 rfl ?_
    refine W.iconst 1 d3_62 rfl ?_
    refine W.lshl d3_63 ?_
    refine W.lload d3_64 rfl ?_
    refine W.lor d3_66 ?_
    refine W.lstoreN d3_67 rfl ?_
    refine W.iinc 1 d3_68 rfl rfl ?_
    show WB _ l Z n m3 71 [(.val (.ref 0)), (.val (.ref 1)), (.val (.ref 2)), (.val (.long (((((((((((((0 : Int64) <<< ((1 : Int32) &&& 0x3f).toInt64) ||| ((XT.ushrL (Int64.ofNat t1.1) (3 - 1)) &&& 1)) <<< ((1 : Int32) &&& 0x3f).toInt64) ||| ((XT.ushrL (Int64.ofNat t2.1) (3 - 1)) &&& 1)) <<< ((1 : Int32) &&& 0x3f).toInt64) ||| ((XT.ushrL (Int64.ofNat t3.1) (3 - 1)) &&& 1)) <<< ((1 : Int32) &&& 0x3f).toInt64) ||| ((XT.ushrL (Int64.ofNat t1.1) ((3 - 1) + (-1))) &&& 1)) <<< ((1 : Int32) &&& 0x3f).toInt64) ||| ((XT.ushrL (Int64.ofNat t2.1) ((3 - 1) + (-1))) &&& 1)) <<< ((1 : Int32) &&& 0x3f).toInt64) ||| ((XT.ushrL (Int64.ofNat t3.1) ((3 - 1) + (-1))) &&& 1)))), .second, (.val (.int ((((((0 + 1) + 1) + 1) + 1) + 1) + 1))), (.val (.int (0))), (.val (.int (0))), (.val (.int ((3 - 1) + (-1)))), (.val (.int ((0 + (((XT.ushrL (Int64.ofNat t1.1) ((3 - 1) + (-1))) &&& 1).toInt32)) + (((XT.ushrL (Int64.ofNat t2.1) ((3 - 1) + (-1))) &&& 1).toInt32)))), (.val (.int ((0 + 1) + 1))), (.val (.int ((0 + 1) + 1))), (.val (.long ((XT.ushrL (Int64.ofNat t3.1) ((3 - 1) + (-1))) &&& 1))), .second] [] [.inl ("com/example/reshelve/reshelve/service/sort/ZCurve", [(("com/example/reshelve/reshelve/service/sort/ZCurve", "dimensions", "I"), (.int (3))), (("com/example/reshelve/reshelve/service/sort/ZCurve", "bits", "I"), (.int (3))), (("com/example/reshelve/reshelve/service/sort/ZCurve", "words", "I"), (.int (1)))]), .inr (.long, [(.long (Int64.ofNat t1.1)), (.long (Int64.ofNat t2.1)), (.long (Int64.ofNat t3.1))]), .inr (.long, [(.long (0))])] _ _ _
    refine W.iload d3_71 rfl ?_
    refine W.bipush 64 d3_73 rfl ?_
    refine W.icmp_ne d3_75 (fun h75 => ?_) (fun h => False.elim (by revert h; decide))
    refine W.iload d3_89 rfl ?_
    refine W.lload d3_91 rfl ?_
    refine W.l2i d3_93 ?_
    refine W.iadd d3_94 ?_
    refine W.istore d3_95 rfl ?_
    refine W.iload d3_97 rfl ?_
    refine W.iconst 1 d3_99 rfl ?_
    refine W.iadd d3_100 ?_
    refine W.aloadN d3_101 rfl rfl ?_
    refine W.getfield 0 d3_102 (hw _ (wd 10 rfl)) rfl rfl ?_
    refine W.icmp_ne d3_105 (fun h => False.elim (by revert h; decide)) (fun h105 => ?_)
    refine W.iconst 0 d3_108 rfl ?_
    refine W.goto d3_109 ?_
    refine W.istore d3_116 rfl ?_
    refine W.iinc 1 d3_118 rfl rfl ?_
    refine W.goto d3_121 ?_
    show W l Z n m3 41 [(.val (.ref 0)), (.val (.ref 1)), (.val (.ref 2)), (.val (.long (((((((((((((0 : Int64) <<< ((1 : Int32) &&& 0x3f).toInt64) ||| ((XT.ushrL (Int64.ofNat t1.1) (3 - 1)) &&& 1)) <<< ((1 : Int32) &&& 0x3f).toInt64) ||| ((XT.ushrL (Int64.ofNat t2.1) (3 - 1)) &&& 1)) <<< ((1 : Int32) &&& 0x3f).toInt64) ||| ((XT.ushrL (Int64.ofNat t3.1) (3 - 1)) &&& 1)) <<< ((1 : Int32) &&& 0x3f).toInt64) ||| ((XT.ushrL (Int64.ofNat t1.1) ((3 - 1) + (-1))) &&& 1)) <<< ((1 : Int32) &&& 0x3f).toInt64) ||| ((XT.ushrL (Int64.ofNat t2.1) ((3 - 1) + (-1))) &&& 1)) <<< ((1 : Int32) &&& 0x3f).toInt64) ||| ((XT.ushrL (Int64.ofNat t3.1) ((3 - 1) + (-1))) &&& 1)))), .second, (.val (.int ((((((0 + 1) + 1) + 1) + 1) + 1) + 1))), (.val (.int (0))), (.val (.int (0))), (.val (.int ((3 - 1) + (-1)))), (.val (.int (((0 + (((XT.ushrL (Int64.ofNat t1.1) ((3 - 1) + (-1))) &&& 1).toInt32)) + (((XT.ushrL (Int64.ofNat t2.1) ((3 - 1) + (-1))) &&& 1).toInt32)) + (((XT.ushrL (Int64.ofNat t3.1) ((3 - 1) + (-1))) &&& 1).toInt32)))), (.val (.int (0))), (.val (.int (((0 + 1) + 1) + 1))), (.val (.long ((XT.ushrL (Int64.ofNat t3.1) ((3 - 1) + (-1))) &&& 1))), .second] [] [.inl ("com/example/reshelve/reshelve/service/sort/ZCurve", [(("com/example/reshelve/reshelve/service/sort/ZCurve", "dimensions", "I"), (.int (3))), (("com/example/reshelve/reshelve/service/sort/ZCurve", "bits", "I"), (.int (3))), (("com/example/reshelve/reshelve/service/sort/ZCurve", "words", "I"), (.int (1)))]), .inr (.long, [(.long (Int64.ofNat t1.1)), (.long (Int64.ofNat t2.1)), (.long (Int64.ofNat t3.1))]), .inr (.long, [(.long (0))])] _ _ _
    refine W.iload d3_41 rfl ?_
    refine W.aloadN d3_43 rfl rfl ?_
    refine W.getfield 0 d3_44 (hw _ (wd 10 rfl)) rfl rfl ?_
    refine W.icmp_ge d3_47 (fun h47 => ?_) (fun h => False.elim (by revert h; decide))
    refine W.iload d3_124 rfl ?_
    refine W.iload d3_126 rfl ?_
    refine W.iadd d3_128 ?_
    rcases own_k1 t1 t2 t3 with q1 | q1 | q1 | q1
    · rw [q1]
      refine W.istore d3_129 rfl ?_
      show WB _ l Z n m3 131 [(.val (.ref 0)), (.val (.ref 1)), (.val (.ref 2)), (.val (.long (((((((((((((0 : Int64) <<< ((1 : Int32) &&& 0x3f).toInt64) ||| ((XT.ushrL (Int64.ofNat t1.1) (3 - 1)) &&& 1)) <<< ((1 : Int32) &&& 0x3f).toInt64) ||| ((XT.ushrL (Int64.ofNat t2.1) (3 - 1)) &&& 1)) <<< ((1 : Int32) &&& 0x3f).toInt64) ||| ((XT.ushrL (Int64.ofNat t3.1) (3 - 1)) &&& 1)) <<< ((1 : Int32) &&& 0x3f).toInt64) ||| ((XT.ushrL (Int64.ofNat t1.1) ((3 - 1) + (-1))) &&& 1)) <<< ((1 : Int32) &&& 0x3f).toInt64) ||| ((XT.ushrL (Int64.ofNat t2.1) ((3 - 1) + (-1))) &&& 1)) <<< ((1 : Int32) &&& 0x3f).toInt64) ||| ((XT.ushrL (Int64.ofNat t3.1) ((3 - 1) + (-1))) &&& 1)))), .second, (.val (.int ((((((0 + 1) + 1) + 1) + 1) + 1) + 1))), (.val (.int (0))), (.val (.int (0))), (.val (.int ((3 - 1) + (-1)))), (.val (.int (((0 + (((XT.ushrL (Int64.ofNat t1.1) ((3 - 1) + (-1))) &&& 1).toInt32)) + (((XT.ushrL (Int64.ofNat t2.1) ((3 - 1) + (-1))) &&& 1).toInt32)) + (((XT.ushrL (Int64.ofNat t3.1) ((3 - 1) + (-1))) &&& 1).toInt32)))), (.val (.int (0))), (.val (.int (((0 + 1) + 1) + 1))), (.val (.long ((XT.ushrL (Int64.ofNat t3.1) ((3 - 1) + (-1))) &&& 1))), .second] [] [.inl ("com/example/reshelve/reshelve/service/sort/ZCurve", [(("com/example/reshelve/reshelve/service/sort/ZCurve", "dimensions", "I"), (.int (3))), (("com/example/reshelve/reshelve/service/sort/ZCurve", "bits", "I"), (.int (3))), (("com/example/reshelve/reshelve/service/sort/ZCurve", "words", "I"), (.int (1)))]), .inr (.long, [(.long (Int64.ofNat t1.1)), (.long (Int64.ofNat t2.1)), (.long (Int64.ofNat t3.1))]), .inr (.long, [(.long (0))])] _ _ _
      refine W.iload d3_131 rfl ?_
      refine W.aloadN d3_133 rfl rfl ?_
      refine W.getfield 0 d3_134 (hw _ (wd 10 rfl)) rfl rfl ?_
      refine W.icmp_lt d3_137 (fun h137 => ?_) (fun h => False.elim (by revert h; decide))
      refine W.iinc (-1) d3_149 rfl rfl ?_
      refine W.goto d3_152 ?_
      refine W.iload d3_26 rfl ?_
      refine W.if_lt d3_28 (fun h => False.elim (by revert h; decide)) (fun h28 => ?_)
      refine W.iconst 0 d3_31 rfl ?_
      refine W.istore d3_32 rfl ?_
      refine W.iload d3_34 rfl ?_
      refine W.istore d3_36 rfl ?_
      refine W.iconst 0 d3_38 rfl ?_
      refine W.istore d3_39 rfl ?_
      show W l Z n m3 41 [(.val (.ref 0)), (.val (.ref 1)), (.val (.ref 2)), (.val (.long (((((((((((((0 : Int64) <<< ((1 : Int32) &&& 0x3f).toInt64) ||| ((XT.ushrL (Int64.ofNat t1.1) (3 - 1)) &&& 1)) <<< ((1 : Int32) &&& 0x3f).toInt64) ||| ((XT.ushrL (Int64.ofNat t2.1) (3 - 1)) &&& 1)) <<< ((1 : Int32) &&& 0x3f).toInt64) ||| ((XT.ushrL (Int64.ofNat t3.1) (3 - 1)) &&& 1)) <<< ((1 : Int32) &&& 0x3f).toInt64) ||| ((XT.ushrL (Int64.ofNat t1.1) ((3 - 1) + (-1))) &&& 1)) <<< ((1 : Int32) &&& 0x3f).toInt64) ||| ((XT.ushrL (Int64.ofNat t2.1) ((3 - 1) + (-1))) &&& 1)) <<< ((1 : Int32) &&& 0x3f).toInt64) ||| ((XT.ushrL (Int64.ofNat t3.1) ((3 - 1) + (-1))) &&& 1)))), .second, (.val (.int ((((((0 + 1) + 1) + 1) + 1) + 1) + 1))), (.val (.int (0))), (.val (.int (0))), (.val (.int (((3 - 1) + (-1)) + (-1)))), (.val (.int (0))), (.val (.int (0))), (.val (.int (0))), (.val (.long ((XT.ushrL (Int64.ofNat t3.1) ((3 - 1) + (-1))) &&& 1))), .second] [] [.inl ("com/example/reshelve/reshelve/service/sort/ZCurve", [(("com/example/reshelve/reshelve/service/sort/ZCurve", "dimensions", "I"), (.int (3))), (("com/example/reshelve/reshelve/service/sort/ZCurve", "bits", "I"), (.int (3))), (("com/example/reshelve/reshelve/service/sort/ZCurve", "words", "I"), (.int (1)))]), .inr (.long, [(.long (Int64.ofNat t1.1)), (.long (Int64.ofNat t2.1)), (.long (Int64.ofNat t3.1))]), .inr (.long, [(.long (0))])] _ _ _
      show WB _ l Z n m3 41 [(.val (.ref 0)), (.val (.ref 1)), (.val (.ref 2)), (.val (.long (((((((((((((0 : Int64) <<< ((1 : Int32) &&& 0x3f).toInt64) ||| ((XT.ushrL (Int64.ofNat t1.1) (3 - 1)) &&& 1)) <<< ((1 : Int32) &&& 0x3f).toInt64) ||| ((XT.ushrL (Int64.ofNat t2.1) (3 - 1)) &&& 1)) <<< ((1 : Int32) &&& 0x3f).toInt64) ||| ((XT.ushrL (Int64.ofNat t3.1) (3 - 1)) &&& 1)) <<< ((1 : Int32) &&& 0x3f).toInt64) ||| ((XT.ushrL (Int64.ofNat t1.1) ((3 - 1) + (-1))) &&& 1)) <<< ((1 : Int32) &&& 0x3f).toInt64) ||| ((XT.ushrL (Int64.ofNat t2.1) ((3 - 1) + (-1))) &&& 1)) <<< ((1 : Int32) &&& 0x3f).toInt64) ||| ((XT.ushrL (Int64.ofNat t3.1) ((3 - 1) + (-1))) &&& 1)))), .second, (.val (.int ((((((0 + 1) + 1) + 1) + 1) + 1) + 1))), (.val (.int (0))), (.val (.int (0))), (.val (.int (((3 - 1) + (-1)) + (-1)))), (.val (.int (0))), (.val (.int (0))), (.val (.int (0))), (.val (.long ((XT.ushrL (Int64.ofNat t3.1) ((3 - 1) + (-1))) &&& 1))), .second] [] [.inl ("com/example/reshelve/reshelve/service/sort/ZCurve", [(("com/example/reshelve/reshelve/service/sort/ZCurve", "dimensions", "I"), (.int (3))), (("com/example/reshelve/reshelve/service/sort/ZCurve", "bits", "I"), (.int (3))), (("com/example/reshelve/reshelve/service/sort/ZCurve", "words", "I"), (.int (1)))]), .inr (.long, [(.long (Int64.ofNat t1.1)), (.long (Int64.ofNat t2.1)), (.long (Int64.ofNat t3.1))]), .inr (.long, [(.long (0))])] _ _ _
      refine W.iload d3_41 rfl ?_
      refine W.aloadN d3_43 rfl rfl ?_
      refine W.getfield 0 d3_44 (hw _ (wd 10 rfl)) rfl rfl ?_
      refine W.icmp_ge d3_47 (fun h => False.elim (by revert h; decide)) (fun h47 => ?_)
      refine W.aloadN d3_50 rfl rfl ?_
      refine W.iload d3_51 rfl ?_
      refine W.laload (i := 0) d3_53 rfl ⟨by decide, by decide⟩ rfl ?_
      refine W.iload d3_54 rfl ?_
      refine W.lushr d3_56 ?_
      refine W.lconst 1 d3_57 rfl ?_
      refine W.land d3_58 ?_
      refine W.lstore d3_59 rfl ?_
      refine W.lloadN d3_61 rfl ?_
      refine W.iconst 1 d3_62 rfl ?_
      refine W.lshl d3_63 ?_
      refine W.lload d3_64 rfl ?_
      refine W.lor d3_66 ?_
      refine W.lstoreN d3_67 rfl ?_
      refine W.iinc 1 d3_68 rfl rfl ?_
      refine W.iload d3_71 rfl ?_
      refine W.bipush 64 d3_73 rfl ?_
      refine W.icmp_ne d3_75 (fun h75 => ?_) (fun h => False.elim (by revert h; decide))
      refine W.iload d3_89 rfl ?_
      refine W.lload d3_91 rfl ?_
      refine W.l2i d3_93 ?_
      refine W.iadd d3_94 ?_
      refine W.istore d3_95 rfl ?_
      show WB _ l Z n m3 97 [(.val (.ref 0)), (.val (.ref 1)), (.val (.ref 2)), (.val (.long (((((((((((((((0 : Int64) <<< ((1 : Int32) &&& 0x3f).toInt64) ||| ((XT.ushrL (Int64.ofNat t1.1) (3 - 1)) &&& 1)) <<< ((1 : Int32) &&& 0x3f).toInt64) ||| ((XT.ushrL (Int64.ofNat t2.1) (3 - 1)) &&& 1)) <<< ((1 : Int32) &&& 0x3f).toInt64) ||| ((XT.ushrL (Int64.ofNat t3.1) (3 - 1)) &&& 1)) <<< ((1 : Int32) &&& 0x3f).toInt64) ||| ((XT.ushrL (Int64.ofNat t1.1) ((3 - 1) + (-1))) &&& 1)) <<< ((1 : Int32) &&& 0x3f).toInt64) ||| ((XT.ushrL (Int64.ofNat t2.1) ((3 - 1) + (-1))) &&& 1)) <<< ((1 : Int32) &&& 0x3f).toInt64) ||| ((XT.ushrL (Int64.ofNat t3.1) ((3 - 1) + (-1))) &&& 1)) <<< ((1 : Int32) &&& 0x3f).toInt64) ||| ((XT.ushrL (Int64.ofNat t1.1) (((3 - 1) + (-1)) + (-1))) &&& 1)))), .second, (.val (.int (((((((0 + 1) + 1) + 1) + 1) + 1) + 1) + 1))), (.val (.int (0))), (.val (.int (0))), (.val (.int (((3 - 1) + (-1)) + (-1)))), (.val (.int (0 + (((XT.ushrL (Int64.ofNat t1.1) (((3 - 1) + (-1)) + (-1))) &&& 1).toInt32)))), (.val (.int (0))), (.val (.int (0))), (.val (.long ((XT.ushrL (Int64.ofNat t1.1) (((3 - 1) + (-1)) + (-1))) &&& 1))), .second] [] [.inl ("com/example/reshelve/reshelve/service/sort/ZCurve", [(("com/example/reshelve/reshelve/service/sort/ZCurve", "dimensions", "I"), (.int (3))), (("com/example/reshelve/reshelve/service/sort/ZCurve", "bits", "I"), (.int (3))), (("com/example/reshelve/reshelve/service/sort/ZCurve", "words", "I"), (.int (1)))]), .inr (.long, [(.long (Int64.ofNat t1.1)), (.long (Int64.ofNat t2.1)), (.long (Int64.ofNat t3.1))]), .inr (.long, [(.long (0))])] _ _ _
      refine W.iload d3_97 rfl ?_
      refine W.iconst 1 d3_99 rfl ?_
      refine W.iadd d3_100 ?_
      refine W.aloadN d3_101 rfl rfl ?_
      refine W.getfield 0 d3_102 (hw _ (wd 10 rfl)) rfl rfl ?_
      refine W.icmp_ne d3_105 (fun h105 => ?_) (fun h => False.elim (by revert h; decide))
      refine W.iload d3_112 rfl ?_
      refine W.iconst 1 d3_114 rfl ?_
      refine W.iadd d3_115 ?_
      refine W.istore d3_116 rfl ?_
      refine W.iinc 1 d3_118 rfl rfl ?_
      refine W.goto d3_121 ?_
      show W l Z n m3 41 [(.val (.ref 0)), (.val (.ref 1)), (.val (.ref 2)), (.val (.long (((((((((((((((0 : Int64) <<< ((1 : Int32) &&& 0x3f).toInt64) ||| ((XT.ushrL (Int64.ofNat t1.1) (3 - 1)) &&& 1)) <<< ((1 : Int32) &&& 0x3f).toInt64) ||| ((XT.ushrL (Int64.ofNat t2.1) (3 - 1)) &&& 1)) <<< ((1 : Int32) &&& 0x3f).toInt64) ||| ((XT.ushrL (Int64.ofNat t3.1) (3 - 1)) &&& 1)) <<< ((1 : Int32) &&& 0x3f).toInt64) ||| ((XT.ushrL (Int64.ofNat t1.1) ((3 - 1) + (-1))) &&& 1)) <<< ((1 : Int32) &&& 0x3f).toInt64) ||| ((XT.ushrL (Int64.ofNat t2.1) ((3 - 1) + (-1))) &&& 1)) <<< ((1 : Int32) &&& 0x3f).toInt64) ||| ((XT.ushrL (Int64.ofNat t3.1) ((3 - 1) + (-1))) &&& 1)) <<< ((1 : Int32) &&& 0x3f).toInt64) ||| ((XT.ushrL (Int64.ofNat t1.1) (((3 - 1) + (-1)) + (-1))) &&& 1)))), .second, (.val (.int (((((((0 + 1) + 1) + 1) + 1) + 1) + 1) + 1))), (.val (.int (0))), (.val (.int (0))), (.val (.int (((3 - 1) + (-1)) + (-1)))), (.val (.int (0 + (((XT.ushrL (Int64.ofNat t1.1) (((3 - 1) + (-1)) + (-1))) &&& 1).toInt32)))), (.val (.int (0 + 1))), (.val (.int (0 + 1))), (.val (.long ((XT.ushrL (Int64.ofNat t1.1) (((3 - 1) + (-1)) + (-1))) &&& 1))), .second] [] [.inl ("com/example/reshelve/reshelve/service/sort/ZCurve", [(("com/example/reshelve/reshelve/service/sort/ZCurve", "dimensions", "I"), (.int (3))), (("com/example/reshelve/reshelve/service/sort/ZCurve", "bits", "I"), (.int (3))), (("com/example/reshelve/reshelve/service/sort/ZCurve", "words", "I"), (.int (1)))]), .inr (.long, [(.long (Int64.ofNat t1.1)), (.long (Int64.ofNat t2.1)), (.long (Int64.ofNat t3.1))]), .inr (.long, [(.long (0))])] _ _ _
      refine W.iload d3_41 rfl ?_
      refine W.aloadN d3_43 rfl rfl ?_
      refine W.getfield 0 d3_44 (hw _ (wd 10 rfl)) rfl rfl ?_
      refine W.icmp_ge d3_47 (fun h => False.elim (by revert h; decide)) (fun h47 => ?_)
      refine W.aloadN d3_50 rfl rfl ?_
      refine W.iload d3_51 rfl ?_
      refine W.laload (i := 1) d3_53 rfl ⟨by decide, by decide⟩ rfl ?_
      refine W.iload d3_54 rfl ?_
      refine W.lushr d3_56 ?_
      refine W.lconst 1 d3_57 rfl ?_
      refine W.land d3_58 ?_
      refine W.lstore d3_59 rfl ?_
      refine W.lloadN d3_61 rfl ?_
      refine W.iconst 1 d3_62 rfl ?_
      refine W.lshl d3_63 ?_
      refine W.lload d3_64 rfl ?_
      refine W.lor d3_66 ?_
      refine W.lstoreN d3_67 rfl ?_
      show WB _ l Z n m3 68 [(.val (.ref 0)), (.val (.ref 1)), (.val (.ref 2)), (.val (.long (((((((((((((((((0 : Int64) <<< ((1 : Int32) &&& 0x3f).toInt64) ||| ((XT.ushrL (Int64.ofNat t1.1) (3 - 1)) &&& 1)) <<< ((1 : Int32) &&& 0x3f).toInt64) ||| ((XT.ushrL (Int64.ofNat t2.1) (3 - 1)) &&& 1)) <<< ((1 : Int32) &&& 0x3f).toInt64) ||| ((XT.ushrL (Int64.ofNat t3.1) (3 - 1)) &&& 1)) <<< ((1 : Int32) &&& 0x3f).toInt64) ||| ((XT.ushrL (Int64.ofNat t1.1) ((3 - 1) + (-1))) &&& 1)) <<< ((1 : Int32) &&& 0x3f).toInt64) ||| ((XT.ushrL (Int64.ofNat t2.1) ((3 - 1) + (-1))) &&& 1)) <<< ((1 : Int32) &&& 0x3f).toInt64) ||| ((XT.ushrL (Int64.ofNat t3.1) ((3 - 1) + (-1))) &&& 1)) <<< ((1 : Int32) &&& 0x3f).toInt64) ||| ((XT.ushrL (Int64.ofNat t1.1) (((3 - 1) + (-1)) + (-1))) &&& 1)) <<< ((1 : Int32) &&& 0x3f).toInt64) ||| ((XT.ushrL (Int64.ofNat t2.1) (((3 - 1) + (-1)) + (-1))) &&& 1)))), .second, (.val (.int (((((((0 + 1) + 1) + 1) + 1) + 1) + 1) + 1))), (.val (.int (0))), (.val (.int (0))), (.val (.int (((3 - 1) + (-1)) + (-1)))), (.val (.int (0 + (((XT.ushrL (Int64.ofNat t1.1) (((3 - 1) + (-1)) + (-1))) &&& 1).toInt32)))), (.val (.int (0 + 1))), (.val (.int (0 + 1))), (.val (.long ((XT.ushrL (Int64.ofNat t2.1) (((3 - 1) + (-1)) + (-1))) &&& 1))), .second] [] [.inl ("com/example/reshelve/reshelve/service/sort/ZCurve", [(("com/example/reshelve/reshelve/service/sort/ZCurve", "dimensions", "I"), (.int (3))), (("com/example/reshelve/reshelve/service/sort/ZCurve", "bits", "I"), (.int (3))), (("com/example/reshelve/reshelve/service/sort/ZCurve", "words", "I"), (.int (1)))]), .inr (.long, [(.long (Int64.ofNat t1.1)), (.long (Int64.ofNat t2.1)), (.long (Int64.ofNat t3.1))]), .inr (.long, [(.long (0))])] _ _ _
      refine W.iinc 1 d3_68 rfl rfl ?_
      refine W.iload d3_71 rfl ?_
      refine W.bipush 64 d3_73 rfl ?_
      refine W.icmp_ne d3_75 (fun h75 => ?_) (fun h => False.elim (by revert h; decide))
      refine W.iload d3_89 rfl ?_
      refine W.lload d3_91 rfl ?_
      refine W.l2i d3_93 ?_
      refine W.iadd d3_94 ?_
      refine W.istore d3_95 rfl ?_
      refine W.iload d3_97 rfl ?_
      refine W.iconst 1 d3_99 rfl ?_
      refine W.iadd d3_100 ?_
      refine W.aloadN d3_101 rfl rfl ?_
      refine W.getfield 0 d3_102 (hw _ (wd 10 rfl)) rfl rfl ?_
      refine W.icmp_ne d3_105 (fun h105 => ?_) (fun h => False.elim (by revert h; decide))
      refine W.iload d3_112 rfl ?_
      refine W.iconst 1 d3_114 rfl ?_
      refine W.iadd d3_115 ?_
      refine W.istore d3_116 rfl ?_
      refine W.iinc 1 d3_118 rfl rfl ?_
      show WB _ l Z n m3 121 [(.val (.ref 0)), (.val (.ref 1)), (.val (.ref 2)), (.val (.long (((((((((((((((((0 : Int64) <<< ((1 : Int32) &&& 0x3f).toInt64) ||| ((XT.ushrL (Int64.ofNat t1.1) (3 - 1)) &&& 1)) <<< ((1 : Int32) &&& 0x3f).toInt64) ||| ((XT.ushrL (Int64.ofNat t2.1) (3 - 1)) &&& 1)) <<< ((1 : Int32) &&& 0x3f).toInt64) ||| ((XT.ushrL (Int64.ofNat t3.1) (3 - 1)) &&& 1)) <<< ((1 : Int32) &&& 0x3f).toInt64) ||| ((XT.ushrL (Int64.ofNat t1.1) ((3 - 1) + (-1))) &&& 1)) <<< ((1 : Int32) &&& 0x3f).toInt64) ||| ((XT.ushrL (Int64.ofNat t2.1) ((3 - 1) + (-1))) &&& 1)) <<< ((1 : Int32) &&& 0x3f).toInt64) ||| ((XT.ushrL (Int64.ofNat t3.1) ((3 - 1) + (-1))) &&& 1)) <<< ((1 : Int32) &&& 0x3f).toInt64) ||| ((XT.ushrL (Int64.ofNat t1.1) (((3 - 1) + (-1)) + (-1))) &&& 1)) <<< ((1 : Int32) &&& 0x3f).toInt64) ||| ((XT.ushrL (Int64.ofNat t2.1) (((3 - 1) + (-1)) + (-1))) &&& 1)))), .second, (.val (.int ((((((((0 + 1) + 1) + 1) + 1) + 1) + 1) + 1) + 1))), (.val (.int (0))), (.val (.int (0))), (.val (.int (((3 - 1) + (-1)) + (-1)))), (.val (.int ((0 + (((XT.ushrL (Int64.ofNat t1.1) (((3 - 1) + (-1)) + (-1))) &&& 1).toInt32)) + (((XT.ushrL (Int64.ofNat t2.1) (((3 - 1) + (-1)) + (-1))) &&& 1).toInt32)))), (.val (.int ((0 + 1) + 1))), (.val (.int ((0 + 1) + 1))), (.val (.long ((XT.ushrL (Int64.ofNat t2.1) (((3 - 1) + (-1)) + (-1))) &&& 1))), .second] [] [.inl ("com/example/reshelve/reshelve/service/sort/ZCurve", [(("com/example/reshelve/reshelve/service/sort/ZCurve", "dimensions", "I"), (.int (3))), (("com/example/reshelve/reshelve/service/sort/ZCurve", "bits", "I"), (.int (3))), (("com/example/reshelve/reshelve/service/sort/ZCurve", "words", "I"), (.int (1)))]), .inr (.long, [(.long (Int64.ofNat t1.1)), (.long (Int64.ofNat t2.1)), (.long (Int64.ofNat t3.1))]), .inr (.long, [(.long (0))])] _ _ _
      refine W.goto d3_121 ?_
      show W l Z n m3 41 [(.val (.ref 0)), (.val (.ref 1)), (.val (.ref 2)), (.val (.long (((((((((((((((((0 : Int64) <<< ((1 : Int32) &&& 0x3f).toInt64) ||| ((XT.ushrL (Int64.ofNat t1.1) (3 - 1)) &&& 1)) <<< ((1 : Int32) &&& 0x3f).toInt64) ||| ((XT.ushrL (Int64.ofNat t2.1) (3 - 1)) &&& 1)) <<< ((1 : Int32) &&& 0x3f).toInt64) ||| ((XT.ushrL (Int64.ofNat t3.1) (3 - 1)) &&& 1)) <<< ((1 : Int32) &&& 0x3f).toInt64) ||| ((XT.ushrL (Int64.ofNat t1.1) ((3 - 1) + (-1))) &&& 1)) <<< ((1 : Int32) &&& 0x3f).toInt64) ||| ((XT.ushrL (Int64.ofNat t2.1) ((3 - 1) + (-1))) &&& 1)) <<< ((1 : Int32) &&& 0x3f).toInt64) ||| ((XT.ushrL (Int64.ofNat t3.1) ((3 - 1) + (-1))) &&& 1)) <<< ((1 : Int32) &&& 0x3f).toInt64) ||| ((XT.ushrL (Int64.ofNat t1.1) (((3 - 1) + (-1)) + (-1))) &&& 1)) <<< ((1 : Int32) &&& 0x3f).toInt64) ||| ((XT.ushrL (Int64.ofNat t2.1) (((3 - 1) + (-1)) + (-1))) &&& 1)))), .second, (.val (.int ((((((((0 + 1) + 1) + 1) + 1) + 1) + 1) + 1) + 1))), (.val (.int (0))), (.val (.int (0))), (.val (.int (((3 - 1) + (-1)) + (-1)))), (.val (.int ((0 + (((XT.ushrL (Int64.ofNat t1.1) (((3 - 1) + (-1)) + (-1))) &&& 1).toInt32)) + (((XT.ushrL (Int64.ofNat t2.1) (((3 - 1) + (-1)) + (-1))) &&& 1).toInt32)))), (.val (.int ((0 + 1) + 1))), (.val (.int ((0 + 1) + 1))), (.val (.long ((XT.ushrL (Int64.ofNat t2.1) (((3 - 1) + (-1)) + (-1))) &&& 1))), .second] [] [.inl ("com/example/reshelve/reshelve/service/sort/ZCurve", [(("com/example/reshelve/reshelve/service/sort/ZCurve", "dimensions", "I"), (.int (3))), (("com/example/reshelve/reshelve/service/sort/ZCurve", "bits", "I"), (.int (3))), (("com/example/reshelve/reshelve/service/sort/ZCurve", "words", "I"), (.int (1)))]), .inr (.long, [(.long (Int64.ofNat t1.1)), (.long (Int64.ofNat t2.1)), (.long (Int64.ofNat t3.1))]), .inr (.long, [(.long (0))])] _ _ _
      refine W.iload d3_41 rfl ?_
      refine W.aloadN d3_43 rfl rfl ?_
      refine W.getfield 0 d3_44 (hw _ (wd 10 rfl)) rfl rfl ?_
      refine W.icmp_ge d3_47 (fun h => False.elim (by revert h; decide)) (fun h47 => ?_)
      refine W.aloadN d3_50 rfl rfl ?_
      refine W.iload d3_51 rfl ?_
      refine W.laload (i := 2) d3_53 rfl ⟨by decide, by decide⟩ rfl ?_
      refine W.iload d3_54 rfl ?_
      refine W.lushr d3_56 ?_
      refine W.lconst 1 d3_57 rfl ?_
      refine W.land d3_58 ?_
      refine W.lstore d3_59 rfl ?_
      refine W.lloadN d3_61 rfl ?_
      refine W.iconst 1 d3_62 rfl ?_
      refine W.lshl d3_63 ?_
      refine W.lload d3_64 rfl ?_
      refine W.lor d3_66 ?_
      refine W.lstoreN d3_67 rfl ?_
      refine W.iinc 1 d3_68 rfl rfl ?_
      refine W.iload d3_71 rfl ?_
      refine W.bipush 64 d3_73 rfl ?_
      refine W.icmp_ne d3_75 (fun h75 => ?_) (fun h => False.elim (by revert h; decide))
      refine W.iload d3_89 rfl ?_
      refine W.lload d3_91 rfl ?_
      refine W.l2i d3_93 ?_
      refine W.iadd d3_94 ?_
      refine W.istore d3_95 rfl ?_
      show WB _ l Z n m3 97 [(.val (.ref 0)), (.val (.ref 1)), (.val (.ref 2)), (.val (.long (((((((((((((((((((0 : Int64) <<< ((1 : Int32) &&& 0x3f).toInt64) ||| ((XT.ushrL (Int64.ofNat t1.1) (3 - 1)) &&& 1)) <<< ((1 : Int32) &&& 0x3f).toInt64) ||| ((XT.ushrL (Int64.ofNat t2.1) (3 - 1)) &&& 1)) <<< ((1 : Int32) &&& 0x3f).toInt64) ||| ((XT.ushrL (Int64.ofNat t3.1) (3 - 1)) &&& 1)) <<< ((1 : Int32) &&& 0x3f).toInt64) ||| ((XT.ushrL (Int64.ofNat t1.1) ((3 - 1) + (-1))) &&& 1)) <<< ((1 : Int32) &&& 0x3f).toInt64) ||| ((XT.ushrL (Int64.ofNat t2.1) ((3 - 1) + (-1))) &&& 1)) <<< ((1 : Int32) &&& 0x3f).toInt64) ||| ((XT.ushrL (Int64.ofNat t3.1) ((3 - 1) + (-1))) &&& 1)) <<< ((1 : Int32) &&& 0x3f).toInt64) ||| ((XT.ushrL (Int64.ofNat t1.1) (((3 - 1) + (-1)) + (-1))) &&& 1)) <<< ((1 : Int32) &&& 0x3f).toInt64) ||| ((XT.ushrL (Int64.ofNat t2.1) (((3 - 1) + (-1)) + (-1))) &&& 1)) <<< ((1 : Int32) &&& 0x3f).toInt64) ||| ((XT.ushrL (Int64.ofNat t3.1) (((3 - 1) + (-1)) + (-1))) &&& 1)))), .second, (.val (.int (((((((((0 + 1) + 1) + 1) + 1) + 1) + 1) + 1) + 1) + 1))), (.val (.int (0))), (.val (.int (0))), (.val (.int (((3 - 1) + (-1)) + (-1)))), (.val (.int (((0 + (((XT.ushrL (Int64.ofNat t1.1) (((3 - 1) + (-1)) + (-1))) &&& 1).toInt32)) + (((XT.ushrL (Int64.ofNat t2.1) (((3 - 1) + (-1)) + (-1))) &&& 1).toInt32)) + (((XT.ushrL (Int64.ofNat t3.1) (((3 - 1) + (-1)) + (-1))) &&& 1).toInt32)))), (.val (.int ((0 + 1) + 1))), (.val (.int ((0 + 1) + 1))), (.val (.long ((XT.ushrL (Int64.ofNat t3.1) (((3 - 1) + (-1)) + (-1))) &&& 1))), .second] [] [.inl ("com/example/reshelve/reshelve/service/sort/ZCurve", [(("com/example/reshelve/reshelve/service/sort/ZCurve", "dimensions", "I"), (.int (3))), (("com/example/reshelve/reshelve/service/sort/ZCurve", "bits", "I"), (.int (3))), (("com/example/reshelve/reshelve/service/sort/ZCurve", "words", "I"), (.int (1)))]), .inr (.long, [(.long (Int64.ofNat t1.1)), (.long (Int64.ofNat t2.1)), (.long (Int64.ofNat t3.1))]), .inr (.long, [(.long (0))])] _ _ _
      refine W.iload d3_97 rfl ?_
      refine W.iconst 1 d3_99 rfl ?_
      refine W.iadd d3_100 ?_
      refine W.aloadN d3_101 rfl rfl ?_
      refine W.getfield 0 d3_102 (hw _ (wd 10 rfl)) rfl rfl ?_
      refine W.icmp_ne d3_105 (fun h => False.elim (by revert h; decide)) (fun h105 => ?_)
      refine W.iconst 0 d3_108 rfl ?_
      refine W.goto d3_109 ?_
      refine W.istore d3_116 rfl ?_
      refine W.iinc 1 d3_118 rfl rfl ?_
      refine W.goto d3_121 ?_
      show W l Z n m3 41 [(.val (.ref 0)), (.val (.ref 1)), (.val (.ref 2)), (.val (.long (((((((((((((((((((0 : Int64) <<< ((1 : Int32) &&& 0x3f).toInt64) ||| ((XT.ushrL (Int64.ofNat t1.1) (3 - 1)) &&& 1)) <<< ((1 : Int32) &&& 0x3f).toInt64) ||| ((XT.ushrL (Int64.ofNat t2.1) (3 - 1)) &&& 1)) <<< ((1 : Int32) &&& 0x3f).toInt64) ||| ((XT.ushrL (Int64.ofNat t3.1) (3 - 1)) &&& 1)) <<< ((1 : Int32) &&& 0x3f).toInt64) ||| ((XT.ushrL (Int64.ofNat t1.1) ((3 - 1) + (-1))) &&& 1)) <<< ((1 : Int32) &&& 0x3f).toInt64) ||| ((XT.ushrL (Int64.ofNat t2.1) ((3 - 1) + (-1))) &&& 1)) <<< ((1 : Int32) &&& 0x3f).toInt64) ||| ((XT.ushrL (Int64.ofNat t3.1) ((3 - 1) + (-1))) &&& 1)) <<< ((1 : Int32) &&& 0x3f).toInt64) ||| ((XT.ushrL (Int64.ofNat t1.1) (((3 - 1) + (-1)) + (-1))) &&& 1)) <<< ((1 : Int32) &&& 0x3f).toInt64) ||| ((XT.ushrL (Int64.ofNat t2.1) (((3 - 1) + (-1)) + (-1))) &&& 1)) <<< ((1 : Int32) &&& 0x3f).toInt64) ||| ((XT.ushrL (Int64.ofNat t3.1) (((3 - 1) + (-1)) + (-1))) &&& 1)))), .second, (.val (.int (((((((((0 + 1) + 1) + 1) + 1) + 1) + 1) + 1) + 1) + 1))), (.val (.int (0))), (.val (.int (0))), (.val (.int (((3 - 1) + (-1)) + (-1)))), (.val (.int (((0 + (((XT.ushrL (Int64.ofNat t1.1) (((3 - 1) + (-1)) + (-1))) &&& 1).toInt32)) + (((XT.ushrL (Int64.ofNat t2.1) (((3 - 1) + (-1)) + (-1))) &&& 1).toInt32)) + (((XT.ushrL (Int64.ofNat t3.1) (((3 - 1) + (-1)) + (-1))) &&& 1).toInt32)))), (.val (.int (0))), (.val (.int (((0 + 1) + 1) + 1))), (.val (.long ((XT.ushrL (Int64.ofNat t3.1) (((3 - 1) + (-1)) + (-1))) &&& 1))), .second] [] [.inl ("com/example/reshelve/reshelve/service/sort/ZCurve", [(("com/example/reshelve/reshelve/service/sort/ZCurve", "dimensions", "I"), (.int (3))), (("com/example/reshelve/reshelve/service/sort/ZCurve", "bits", "I"), (.int (3))), (("com/example/reshelve/reshelve/service/sort/ZCurve", "words", "I"), (.int (1)))]), .inr (.long, [(.long (Int64.ofNat t1.1)), (.long (Int64.ofNat t2.1)), (.long (Int64.ofNat t3.1))]), .inr (.long, [(.long (0))])] _ _ _
      refine W.iload d3_41 rfl ?_
      refine W.aloadN d3_43 rfl rfl ?_
      refine W.getfield 0 d3_44 (hw _ (wd 10 rfl)) rfl rfl ?_
      refine W.icmp_ge d3_47 (fun h47 => ?_) (fun h => False.elim (by revert h; decide))
      refine W.iload d3_124 rfl ?_
      refine W.iload d3_126 rfl ?_
      refine W.iadd d3_128 ?_
      refine W.istore d3_129 rfl ?_
      refine W.iload d3_131 rfl ?_
      refine W.aloadN d3_133 rfl rfl ?_
      refine W.getfield 0 d3_134 (hw _ (wd 10 rfl)) rfl rfl ?_
      refine W.icmp_lt d3_137 (fun h137 => ?_) (fun h137 => ?_)
      · refine W.iinc (-1) d3_149 rfl rfl ?_
        show WB _ l Z n m3 152 [(.val (.ref 0)), (.val (.ref 1)), (.val (.ref 2)), (.val (.long (((((((((((((((((((0 : Int64) <<< ((1 : Int32) &&& 0x3f).toInt64) ||| ((XT.ushrL (Int64.ofNat t1.1) (3 - 1)) &&& 1)) <<< ((1 : Int32) &&& 0x3f).toInt64) ||| ((XT.ushrL (Int64.ofNat t2.1) (3 - 1)) &&& 1)) <<< ((1 : Int32) &&& 0x3f).toInt64) ||| ((XT.ushrL (Int64.ofNat t3.1) (3 - 1)) &&& 1)) <<< ((1 : Int32) &&& 0x3f).toInt64) ||| ((XT.ushrL (Int64.ofNat t1.1) ((3 - 1) + (-1))) &&& 1)) <<< ((1 : Int32) &&& 0x3f).toInt64) ||| ((XT.ushrL (Int64.ofNat t2.1) ((3 - 1) + (-1))) &&& 1)) <<< ((1 : Int32) &&& 0x3f).toInt64) ||| ((XT.ushrL (Int64.ofNat t3.1) ((3 - 1) + (-1))) &&& 1)) <<< ((1 : Int32) &&& 0x3f).toInt64) ||| ((XT.ushrL (Int64.ofNat t1.1) (((3 - 1) + (-1)) + (-1))) &&& 1)) <<< ((1 : Int32) &&& 0x3f).toInt64) ||| ((XT.ushrL (Int64.ofNat t2.1) (((3 - 1) + (-1)) + (-1))) &&& 1)) <<< ((1 : Int32) &&& 0x3f).toInt64) ||| ((XT.ushrL (Int64.ofNat t3.1) (((3 - 1) + (-1)) + (-1))) &&& 1)))), .second, (.val (.int (((((((((0 + 1) + 1) + 1) + 1) + 1) + 1) + 1) + 1) + 1))), (.val (.int (0))), (.val (.int (0 + (((0 + (((XT.ushrL (Int64.ofNat t1.1) (((3 - 1) + (-1)) + (-1))) &&& 1).toInt32)) + (((XT.ushrL (Int64.ofNat t2.1) (((3 - 1) + (-1)) + (-1))) &&& 1).toInt32)) + (((XT.ushrL (Int64.ofNat t3.1) (((3 - 1) + (-1)) + (-1))) &&& 1).toInt32))))), (.val (.int ((((3 - 1) + (-1)) + (-1)) + (-1)))), (.val (.int (((0 + (((XT.ushrL (Int64.ofNat t1.1) (((3 - 1) + (-1)) + (-1))) &&& 1).toInt32)) + (((XT.ushrL (Int64.ofNat t2.1) (((3 - 1) + (-1)) + (-1))) &&& 1).toInt32)) + (((XT.ushrL (Int64.ofNat t3.1) (((3 - 1) + (-1)) + (-1))) &&& 1).toInt32)))), (.val (.int (0))), (.val (.int (((0 + 1) + 1) + 1))), (.val (.long ((XT.ushrL (Int64.ofNat t3.1) (((3 - 1) + (-1)) + (-1))) &&& 1))), .second] [] [.inl ("com/example/reshelve/reshelve/service/sort/ZCurve", [(("com/example/reshelve/reshelve/service/sort/ZCurve", "dimensions", "I"), (.int (3))), (("com/example/reshelve/reshelve/service/sort/ZCurve", "bits", "I"), (.int (3))), (("com/example/reshelve/reshelve/service/sort/ZCurve", "words", "I"), (.int (1)))]), .inr (.long, [(.long (Int64.ofNat t1.1)), (.long (Int64.ofNat t2.1)), (.long (Int64.ofNat t3.1))]), .inr (.long, [(.long (0))])] _ _ _
        refine W.goto d3_152 ?_
        refine W.iload d3_26 rfl ?_
        refine W.if_lt d3_28 (fun h28 => ?_) (fun h => False.elim (by revert h; decide))
        refine W.iload d3_155 rfl ?_
        refine W.if_le d3_157 (fun h => False.elim (by revert h; decide)) (fun h157 => ?_)
        refine W.aloadN d3_160 rfl rfl ?_
        refine W.iload d3_161 rfl ?_
        refine W.lloadN d3_163 rfl ?_
        refine W.bipush 64 d3_164 rfl ?_
        refine W.iload d3_166 rfl ?_
        refine W.isub d3_168 ?_
        refine W.lshl d3_169 ?_
        refine W.lastore (i := 0) d3_170 rfl ⟨by decide, by decide⟩ (by simp) ?_
        refine W.aloadN d3_171 rfl rfl ?_
        exact W.areturn d3_172 rfl rfl rfl (by decide) (by decide) (⟨rfl, by rw [own_k2 t1 t2 t3 q0 q1] <;> rfl⟩)
      · refine W.iload d3_140 rfl ?_
        refine W.aloadN d3_142 rfl rfl ?_
        refine W.getfield 0 d3_143 (hw _ (wd 10 rfl)) rfl rfl ?_
        refine W.isub d3_146 ?_
        refine W.istore d3_147 rfl ?_
        show WB _ l Z n m3 149 [(.val (.ref 0)), (.val (.ref 1)), (.val (.ref 2)), (.val (.long (((((((((((((((((((0 : Int64) <<< ((1 : Int32) &&& 0x3f).toInt64) ||| ((XT.ushrL (Int64.ofNat t1.1) (3 - 1)) &&& 1)) <<< ((1 : Int32) &&& 0x3f).toInt64) ||| ((XT.ushrL (Int64.ofNat t2.1) (3 - 1)) &&& 1)) <<< ((1 : Int32) &&& 0x3f).toInt64) ||| ((XT.ushrL (Int64.ofNat t3.1) (3 - 1)) &&& 1)) <<< ((1 : Int32) &&& 0x3f).toInt64) ||| ((XT.ushrL (Int64.ofNat t1.1) ((3 - 1) + (-1))) &&& 1)) <<< ((1 : Int32) &&& 0x3f).toInt64) ||| ((XT.ushrL (Int64.ofNat t2.1) ((3 - 1) + (-1))) &&& 1)) <<< ((1 : Int32) &&& 0x3f).toInt64) ||| ((XT.ushrL (Int64.ofNat t3.1) ((3 - 1) + (-1))) &&& 1)) <<< ((1 : Int32) &&& 0x3f).toInt64) ||| ((XT.ushrL (Int64.ofNat t1.1) (((3 - 1) + (-1)) + (-1))) &&& 1)) <<< ((1 : Int32) &&& 0x3f).toInt64) ||| ((XT.ushrL (Int64.ofNat t2.1) (((3 - 1) + (-1)) + (-1))) &&& 1)) <<< ((1 : Int32) &&& 0x3f).toInt64) ||| ((XT.ushrL (Int64.ofNat t3.1) (((3 - 1) + (-1)) + (-1))) &&& 1)))), .second, (.val (.int (((((((((0 + 1) + 1) + 1) + 1) + 1) + 1) + 1) + 1) + 1))), (.val (.int (0))), (.val (.int ((0 + (((0 + (((XT.ushrL (Int64.ofNat t1.1) (((3 - 1) + (-1)) + (-1))) &&& 1).toInt32)) + (((XT.ushrL (Int64.ofNat t2.1) (((3 - 1) + (-1)) + (-1))) &&& 1).toInt32)) + (((XT.ushrL (Int64.ofNat t3.1) (((3 - 1) + (-1)) + (-1))) &&& 1).toInt32))) - 3))), (.val (.int (((3 - 1) + (-1)) + (-1)))), (.val (.int (((0 + (((XT.ushrL (Int64.ofNat t1.1) (((3 - 1) + (-1)) + (-1))) &&& 1).toInt32)) + (((XT.ushrL (Int64.ofNat t2.1) (((3 - 1) + (-1)) + (-1))) &&& 1).toInt32)) + (((XT.ushrL (Int64.ofNat t3.1) (((3 - 1) + (-1)) + (-1))) &&& 1).toInt32)))), (.val (.int (0))), (.val (.int (((0 + 1) + 1) + 1))), (.val (.long ((XT.ushrL (Int64.ofNat t3.1) (((3 - 1) + (-1)) + (-1))) &&& 1))), .second] [] [.inl ("com/example/reshelve/reshelve/service/sort/ZCurve", [(("com/example/reshelve/reshelve/service/sort/ZCurve", "dimensions", "I"), (.int (3))), (("com/example/reshelve/reshelve/service/sort/ZCurve", "bits", "I"), (.int (3))), (("com/example/reshelve/reshelve/service/sort/ZCurve", "words", "I"), (.int (1)))]), .inr (.long, [(.long (Int64.ofNat t1.1)), (.long (Int64.ofNat t2.1)), (.long (Int64.ofNat t3.1))]), .inr (.long, [(.long (0))])] _ _ _
        refine W.iinc (-1) d3_149 rfl rfl ?_
        refine W.goto d3_152 ?_
        refine W.iload d3_26 rfl ?_
        refine W.if_lt d3_28 (fun h28 => ?_) (fun h => False.elim (by revert h; decide))
        refine W.iload d3_155 rfl ?_
        refine W.if_le d3_157 (fun h => False.elim (by revert h; decide)) (fun h157 => ?_)
        refine W.aloadN d3_160 rfl rfl ?_
        refine W.iload d3_161 rfl ?_
        refine W.lloadN d3_163 rfl ?_
        refine W.bipush 64 d3_164 rfl ?_
        refine W.iload d3_166 rfl ?_
        refine W.isub d3_168 ?_
        refine W.lshl d3_169 ?_
        refine W.lastore (i := 0) d3_170 rfl ⟨by decide, by decide⟩ (by simp) ?_
        refine W.aloadN d3_171 rfl rfl ?_
        exact W.areturn d3_172 rfl rfl rfl (by decide) (by decide) (⟨rfl, by rw [own_k2 t1 t2 t3 q0 q1] <;> rfl⟩)
    · rw [q1]
      refine W.istore d3_129 rfl ?_
      show WB _ l Z n m3 131 [(.val (.ref 0)), (.val (.ref 1)), (.val (.ref 2)), (.val (.long (((((((((((((0 : Int64) <<< ((1 : Int32) &&& 0x3f).toInt64) ||| ((XT.ushrL (Int64.ofNat t1.1) (3 - 1)) &&& 1)) <<< ((1 : Int32) &&& 0x3f).toInt64) ||| ((XT.ushrL (Int64.ofNat t2.1) (3 - 1)) &&& 1)) <<< ((1 : Int32) &&& 0x3f).toInt64) ||| ((XT.ushrL (Int64.ofNat t3.1) (3 - 1)) &&& 1)) <<< ((1 : Int32) &&& 0x3f).toInt64) ||| ((XT.ushrL (Int64.ofNat t1.1) ((3 - 1) + (-1))) &&& 1)) <<< ((1 : Int32) &&& 0x3f).toInt64) ||| ((XT.ushrL (Int64.ofNat t2.1) ((3 - 1) + (-1))) &&& 1)) <<< ((1 : Int32) &&& 0x3f).toInt64) ||| ((XT.ushrL (Int64.ofNat t3.1) ((3 - 1) + (-1))) &&& 1)))), .second, (.val (.int ((((((0 + 1) + 1) + 1) + 1) + 1) + 1))), (.val (.int (0))), (.val (.int (1))), (.val (.int ((3 - 1) + (-1)))), (.val (.int (((0 + (((XT.ushrL (Int64.ofNat t1.1) ((3 - 1) + (-1))) &&& 1).toInt32)) + (((XT.ushrL (Int64.ofNat t2.1) ((3 - 1) + (-1))) &&& 1).toInt32)) + (((XT.ushrL (Int64.ofNat t3.1) ((3 - 1) + (-1))) &&& 1).toInt32)))), (.val (.int (0))), (.val (.int (((0 + 1) + 1) + 1))), (.val (.long ((XT.ushrL (Int64.ofNat t3.1) ((3 - 1) + (-1))) &&& 1))), .second] [] [.inl ("com/example/reshelve/reshelve/service/sort/ZCurve", [(("com/example/reshelve/reshelve/service/sort/ZCurve", "dimensions", "I"), (.int (3))), (("com/example/reshelve/reshelve/service/sort/ZCurve", "bits", "I"), (.int (3))), (("com/example/reshelve/reshelve/service/sort/ZCurve", "words", "I"), (.int (1)))]), .inr (.long, [(.long (Int64.ofNat t1.1)), (.long (Int64.ofNat t2.1)), (.long (Int64.ofNat t3.1))]), .inr (.long, [(.long (0))])] _ _ _
      refine W.iload d3_131 rfl ?_
      refine W.aloadN d3_133 rfl rfl ?_
      refine W.getfield 0 d3_134 (hw _ (wd 10 rfl)) rfl rfl ?_
      refine W.icmp_lt d3_137 (fun h137 => ?_) (fun h => False.elim (by revert h; decide))
      refine W.iinc (-1) d3_149 rfl rfl ?_
      refine W.goto d3_152 ?_
      refine W.iload d3_26 rfl ?_
      refine W.if_lt d3_28 (fun h => False.elim (by revert h; decide)) (fun h28 => ?_)
      refine W.iconst 0 d3_31 rfl ?_
      refine W.istore d3_32 rfl ?_
      refine W.iload d3_34 rfl ?_
      refine W.istore d3_36 rfl ?_
      refine W.iconst 0 d3_38 rfl ?_
      refine W.istore d3_39 rfl ?_
      show W l Z n m3 41 [(.val (.ref 0)), (.val (.ref 1)), (.val (.ref 2)), (.val (.long (((((((((((((0 : Int64) <<< ((1 : Int32) &&& 0x3f).toInt64) ||| ((XT.ushrL (Int64.ofNat t1.1) (3 - 1)) &&& 1)) <<< ((1 : Int32) &&& 0x3f).toInt64) ||| ((XT.ushrL (Int64.ofNat t2.1) (3 - 1)) &&& 1)) <<< ((1 : Int32) &&& 0x3f).toInt64) ||| ((XT.ushrL (Int64.ofNat t3.1) (3 - 1)) &&& 1)) <<< ((1 : Int32) &&& 0x3f).toInt64) ||| ((XT.ushrL (Int64.ofNat t1.1) ((3 - 1) + (-1))) &&& 1)) <<< ((1 : Int32) &&& 0x3f).toInt64) ||| ((XT.ushrL (Int64.ofNat t2.1) ((3 - 1) + (-1))) &&& 1)) <<< ((1 : Int32) &&& 0x3f).toInt64) ||| ((XT.ushrL (Int64.ofNat t3.1) ((3 - 1) + (-1))) &&& 1)))), .second, (.val (.int ((((((0 + 1) + 1) + 1) + 1) + 1) + 1))), (.val (.int (0))), (.val (.int (1))), (.val (.int (((3 - 1) + (-1)) + (-1)))), (.val (.int (0))), (.val (.int (1))), (.val (.int (0))), (.val (.long ((XT.ushrL (Int64.ofNat t3.1) ((3 - 1) + (-1))) &&& 1))), .second] [] [.inl ("com/example/reshelve/reshelve/service/sort/ZCurve", [(("com/example/reshelve/reshelve/service/sort/ZCurve", "dimensions", "I"), (.int (3))), (("com/example/reshelve/reshelve/service/sort/ZCurve", "bits", "I"), (.int (3))), (("com/example/reshelve/reshelve/service/sort/ZCurve", "words", "I"), (.int (1)))]), .inr (.long, [(.long (Int64.ofNat t1.1)), (.long (Int64.ofNat t2.1)), (.long (Int64.ofNat t3.1))]), .inr (.long, [(.long (0))])] _ _ _
      show WB _ l Z n m3 41 [(.val (.ref 0)), (.val (.ref 1)), (.val (.ref 2)), (.val (.long (((((((((((((0 : Int64) <<< ((1 : Int32) &&& 0x3f).toInt64) ||| ((XT.ushrL (Int64.ofNat t1.1) (3 - 1)) &&& 1)) <<< ((1 : Int32) &&& 0x3f).toInt64) ||| ((XT.ushrL (Int64.ofNat t2.1) (3 - 1)) &&& 1)) <<< ((1 : Int32) &&& 0x3f).toInt64) ||| ((XT.ushrL (Int64.ofNat t3.1) (3 - 1)) &&& 1)) <<< ((1 : Int32) &&& 0x3f).toInt64) ||| ((XT.ushrL (Int64.ofNat t1.1) ((3 - 1) + (-1))) &&& 1)) <<< ((1 : Int32) &&& 0x3f).toInt64) ||| ((XT.ushrL (Int64.ofNat t2.1) ((3 - 1) + (-1))) &&& 1)) <<< ((1 : Int32) &&& 0x3f).toInt64) ||| ((XT.ushrL (Int64.ofNat t3.1) ((3 - 1) + (-1))) &&& 1)))), .second, (.val (.int ((((((0 + 1) + 1) + 1) + 1) + 1) + 1))), (.val (.int (0))), (.val (.int (1))), (.val (.int (((3 - 1) + (-1)) + (-1)))), (.val (.int (0))), (.val (.int (1))), (.val (.int (0))), (.val (.long ((XT.ushrL (Int64.ofNat t3.1) ((3 - 1) + (-1))) &&& 1))), .second] [] [.inl ("com/example/reshelve/reshelve/service/sort/ZCurve", [(("com/example/reshelve/reshelve/service/sort/ZCurve", "dimensions", "I"), (.int (3))), (("com/example/reshelve/reshelve/service/sort/ZCurve", "bits", "I"), (.int (3))), (("com/example/reshelve/reshelve/service/sort/ZCurve", "words", "I"), (.int (1)))]), .inr (.long, [(.long (Int64.ofNat t1.1)), (.long (Int64.ofNat t2.1)), (.long (Int64.ofNat t3.1))]), .inr (.long, [(.long (0))])] _ _ _
      refine W.iload d3_41 rfl ?_
      refine W.aloadN d3_43 rfl rfl ?_
      refine W.getfield 0 d3_44 (hw _ (wd 10 rfl)) rfl rfl ?_
      refine W.icmp_ge d3_47 (fun h => False.elim (by revert h; decide)) (fun h47 => ?_)
      refine W.aloadN d3_50 rfl rfl ?_
      refine W.iload d3_51 rfl ?_
      refine W.laload (i := 1) d3_53 rfl ⟨by decide, by decide⟩ rfl ?_
      refine W.iload d3_54 rfl ?_
      refine W.lushr d3_56 ?_
      refine W.lconst 1 d3_57 rfl ?_
      refine W.land d3_58 ?_
      refine W.lstore d3_59 rfl ?_
      refine W.lloadN d3_61 rfl ?_
      refine W.iconst 1 d3_62 rfl ?_
      refine W.lshl d3_63 ?_
      refine W.lload d3_64 rfl ?_
      refine W.lor d3_66 ?_
      refine W.lstoreN d3_67 rfl ?_
      refine W.iinc 1 d3_68 rfl rfl ?_
      refine W.iload d3_71 rfl ?_
      refine W.bipush 64 d3_73 rfl ?_
      refine W.icmp_ne d3_75 (fun h75 => ?_) (fun h => False.elim (by revert h; decide))
      refine W.iload d3_89 rfl ?_
      refine W.lload d3_91 rfl ?_
      refine W.l2i d3_93 ?_
      refine W.iadd d3_94 ?_
      refine W.istore d3_95 rfl ?_
      show WB _ l Z n m3 97 [(.val (.ref 0)), (.val (.ref 1)), (.val (.ref 2)), (.val (.long (((((((((((((((0 : Int64) <<< ((1 : Int32) &&& 0x3f).toInt64) ||| ((XT.ushrL (Int64.ofNat t1.1) (3 - 1)) &&& 1)) <<< ((1 : Int32) &&& 0x3f).toInt64) ||| ((XT.ushrL (Int64.ofNat t2.1) (3 - 1)) &&& 1)) <<< ((1 : Int32) &&& 0x3f).toInt64) ||| ((XT.ushrL (Int64.ofNat t3.1) (3 - 1)) &&& 1)) <<< ((1 : Int32) &&& 0x3f).toInt64) ||| ((XT.ushrL (Int64.ofNat t1.1) ((3 - 1) + (-1))) &&& 1)) <<< ((1 : Int32) &&& 0x3f).toInt64) ||| ((XT.ushrL (Int64.ofNat t2.1) ((3 - 1) + (-1))) &&& 1)) <<< ((1 : Int32) &&& 0x3f).toInt64) ||| ((XT.ushrL (Int64.ofNat t3.1) ((3 - 1) + (-1))) &&& 1)) <<< ((1 : Int32) &&& 0x3f).toInt64) ||| ((XT.ushrL (Int64.ofNat t2.1) (((3 - 1) + (-1)) + (-1))) &&& 1)))), .second, (.val (.int (((((((0 + 1) + 1) + 1) + 1) + 1) + 1) + 1))), (.val (.int (0))), (.val (.int (1))), (.val (.int (((3 - 1) + (-1)) + (-1)))), (.val (.int (0 + (((XT.ushrL (Int64.ofNat t2.1) (((3 - 1) + (-1)) + (-1))) &&& 1).toInt32)))), (.val (.int (1))), (.val (.int (0))), (.val (.long ((XT.ushrL (Int64.ofNat t2.1) (((3 - 1) + (-1)) + (-1))) &&& 1))), .second] [] [.inl ("com/example/reshelve/reshelve/service/sort/ZCurve", [(("com/example/reshelve/reshelve/service/sort/ZCurve", "dimensions", "I"), (.int (3))), (("com/example/reshelve/reshelve/service/sort/ZCurve", "bits", "I"), (.int (3))), (("com/example/reshelve/reshelve/service/sort/ZCurve", "words", "I"), (.int (1)))]), .inr (.long, [(.long (Int64.ofNat t1.1)), (.long (Int64.ofNat t2.1)), (.long (Int64.ofNat t3.1))]), .inr (.long, [(.long (0))])] _ _ _
      refine W.iload d3_97 rfl ?_
      refine W.iconst 1 d3_99 rfl ?_
      refine W.iadd d3_100 ?_
      refine W.aloadN d3_101 rfl rfl ?_
      refine W.getfield 0 d3_102 (hw _ (wd 10 rfl)) rfl rfl ?_
      refine W.icmp_ne d3_105 (fun h105 => ?_) (fun h => False.elim (by revert h; decide))
      refine W.iload d3_112 rfl ?_
      refine W.iconst 1 d3_114 rfl ?_
      refine W.iadd d3_115 ?_
      refine W.istore d3_116 rfl ?_
      refine W.iinc 1 d3_118 rfl rfl ?_
      refine W.goto d3_121 ?_
      show W l Z n m3 41 [(.val (.ref 0)), (.val (.ref 1)), (.val (.ref 2)), (.val (.long (((((((((((((((0 : Int64) <<< ((1 : Int32) &&& 0x3f).toInt64) ||| ((XT.ushrL (Int64.ofNat t1.1) (3 - 1)) &&& 1)) <<< ((1 : Int32) &&& 0x3f).toInt64) ||| ((XT.ushrL (Int64.ofNat t2.1) (3 - 1)) &&& 1)) <<< ((1 : Int32) &&& 0x3f).toInt64) ||| ((XT.ushrL (Int64.ofNat t3.1) (3 - 1)) &&& 1)) <<< ((1 : Int32) &&& 0x3f).toInt64) ||| ((XT.ushrL (Int64.ofNat t1.1) ((3 - 1) + (-1))) &&& 1)) <<< ((1 : Int32) &&& 0x3f).toInt64) ||| ((XT.ushrL (Int64.ofNat t2.1) ((3 - 1) + (-1))) &&& 1)) <<< ((1 : Int32) &&& 0x3f).toInt64) ||| ((XT.ushrL (Int64.ofNat t3.1) ((3 - 1) + (-1))) &&& 1)) <<< ((1 : Int32) &&& 0x3f).toInt64) ||| ((XT.ushrL (Int64.ofNat t2.1) (((3 - 1) + (-1)) + (-1))) &&& 1)))), .second, (.val (.int (((((((0 + 1) + 1) + 1) + 1) + 1) + 1) + 1))), (.val (.int (0))), (.val (.int (1))), (.val (.int (((3 - 1) + (-1)) + (-1)))), (.val (.int (0 + (((XT.ushrL (Int64.ofNat t2.1) (((3 - 1) + (-1)) + (-1))) &&& 1).toInt32)))), (.val (.int (1 + 1))), (.val (.int (0 + 1))), (.val (.long ((XT.ushrL (Int64.ofNat t2.1) (((3 - 1) + (-1)) + (-1))) &&& 1))), .second] [] [.inl ("com/example/reshelve/reshelve/service/sort/ZCurve", [(("com/example/reshelve/reshelve/service/sort/ZCurve", "dimensions", "I"), (.int (3))), (("com/example/reshelve/reshelve/service/sort/ZCurve", "bits", "I"), (.int (3))), (("com/example/reshelve/reshelve/service/sort/ZCurve", "words", "I"), (.int (1)))]), .inr (.long, [(.long (Int64.ofNat t1.1)), (.long (Int64.ofNat t2.1)), (.long (Int64.ofNat t3.1))]), .inr (.long, [(.long (0))])] _ _ _
      refine W.iload d3_41 rfl ?_
      refine W.aloadN d3_43 rfl rfl ?_
      refine W.getfield 0 d3_44 (hw _ (wd 10 rfl)) rfl rfl ?_
      refine W.icmp_ge d3_47 (fun h => False.elim (by revert h; decide)) (fun h47 => ?_)
      refine W.aloadN d3_50 rfl rfl ?_
      refine W.iload d3_51 rfl ?_
      refine W.laload (i := 2) d3_53 rfl ⟨by decide, by decide⟩ rfl ?_
      refine W.iload d3_54 rfl ?_
      refine W.lushr d3_56 ?_
      refine W.lconst 1 d3_57 rfl ?_
      refine W.land d3_58 ?_
      refine W.lstore d3_59 rfl ?_
      refine W.lloadN d3_61 rfl ?_
      refine W.iconst 1 d3_62 rfl ?_
      refine W.lshl d3_63 ?_
      refine W.lload d3_64 rfl ?_
      refine W.lor d3_66 ?_
      refine W.lstoreN d3_67 rfl ?_
      show WB _ l Z n m3 68 [(.val (.ref 0)), (.val (.ref 1)), (.val (.ref 2)), (.val (.long (((((((((((((((((0 : Int64) <<< ((1 : Int32) &&& 0x3f).toInt64) ||| ((XT.ushrL (Int64.ofNat t1.1) (3 - 1)) &&& 1)) <<< ((1 : Int32) &&& 0x3f).toInt64) ||| ((XT.ushrL (Int64.ofNat t2.1) (3 - 1)) &&& 1)) <<< ((1 : Int32) &&& 0x3f).toInt64) ||| ((XT.ushrL (Int64.ofNat t3.1) (3 - 1)) &&& 1)) <<< ((1 : Int32) &&& 0x3f).toInt64) ||| ((XT.ushrL (Int64.ofNat t1.1) ((3 - 1) + (-1))) &&& 1)) <<< ((1 : Int32) &&& 0x3f).toInt64) ||| ((XT.ushrL (Int64.ofNat t2.1) ((3 - 1) + (-1))) &&& 1)) <<< ((1 : Int32) &&& 0x3f).toInt64) ||| ((XT.ushrL (Int64.ofNat t3.1) ((3 - 1) + (-1))) &&& 1)) <<< ((1 : Int32) &&& 0x3f).toInt64) ||| ((XT.ushrL (Int64.ofNat t2.1) (((3 - 1) + (-1)) + (-1))) &&& 1)) <<< ((1 : Int32) &&& 0x3f).toInt64) ||| ((XT.ushrL (Int64.ofNat t3.1) (((3 - 1) + (-1)) + (-1))) &&& 1)))), .second, (.val (.int (((((((0 + 1) + 1) + 1) + 1) + 1) + 1) + 1))), (.val (.int (0))), (.val (.int (1))), (.val (.int (((3 - 1) + (-1)) + (-1)))), (.val (.int (0 + (((XT.ushrL (Int64.ofNat t2.1) (((3 - 1) + (-1)) + (-1))) &&& 1).toInt32)))), (.val (.int (1 + 1))), (.val (.int (0 + 1))), (.val (.long ((XT.ushrL (Int64.ofNat t3.1) (((3 - 1) + (-1)) + (-1))) &&& 1))), .second] [] [.inl ("com/example/reshelve/reshelve/service/sort/ZCurve", [(("com/example/reshelve/reshelve/service/sort/ZCurve", "dimensions", "I"), (.int (3))), (("com/example/reshelve/reshelve/service/sort/ZCurve", "bits", "I"), (.int (3))), (("com/example/reshelve/reshelve/service/sort/ZCurve", "words", "I"), (.int (1)))]), .inr (.long, [(.long (Int64.ofNat t1.1)), (.long (Int64.ofNat t2.1)), (.long (Int64.ofNat t3.1))]), .inr (.long, [(.long (0))])] _ _ _
      refine W.iinc 1 d3_68 rfl rfl ?_
      refine W.iload d3_71 rfl ?_
      refine W.bipush 64 d3_73 rfl ?_
      refine W.icmp_ne d3_75 (fun h75 => ?_) (fun h => False.elim (by revert h; decide))
      refine W.iload d3_89 rfl ?_
      refine W.lload d3_91 rfl ?_
      refine W.l2i d3_93 ?_
      refine W.iadd d3_94 ?_
      refine W.istore d3_95 rfl ?_
      refine W.iload d3_97 rfl ?_
      refine W.iconst 1 d3_99 rfl ?_
      refine W.iadd d3_100 ?_
      refine W.aloadN d3_101 rfl rfl ?_
      refine W.getfield 0 d3_102 (hw _ (wd 10 rfl)) rfl rfl ?_
      refine W.icmp_ne d3_105 (fun h => False.elim (by revert h; decide)) (fun h105 => ?_)
      refine W.iconst 0 d3_108 rfl ?_
      refine W.goto d3_109 ?_
      refine W.istore d3_116 rfl ?_
      refine W.iinc 1 d3_118 rfl rfl ?_
      show WB _ l Z n m3 121 [(.val (.ref 0)), (.val (.ref 1)), (.val (.ref 2)), (.val (.long (((((((((((((((((0 : Int64) <<< ((1 : Int32) &&& 0x3f).toInt64) ||| ((XT.ushrL (Int64.ofNat t1.1) (3 - 1)) &&& 1)) <<< ((1 : Int32) &&& 0x3f).toInt64) ||| ((XT.ushrL (Int64.ofNat t2.1) (3 - 1)) &&& 1)) <<< ((1 : Int32) &&& 0x3f).toInt64) ||| ((XT.ushrL (Int64.ofNat t3.1) (3 - 1)) &&& 1)) <<< ((1 : Int32) &&& 0x3f).toInt64) ||| ((XT.ushrL (Int64.ofNat t1.1) ((3 - 1) + (-1))) &&& 1)) <<< ((1 : Int32) &&& 0x3f).toInt64) ||| ((XT.ushrL (Int64.ofNat t2.1) ((3 - 1) + (-1))) &&& 1)) <<< ((1 : Int32) &&& 0x3f).toInt64) ||| ((XT.ushrL (Int64.ofNat t3.1) ((3 - 1) + (-1))) &&& 1)) <<< ((1 : Int32) &&& 0x3f).toInt64) ||| ((XT.ushrL (Int64.ofNat t2.1) (((3 - 1) + (-1)) + (-1))) &&& 1)) <<< ((1 : Int32) &&& 0x3f).toInt64) ||| ((XT.ushrL (Int64.ofNat t3.1) (((3 - 1) + (-1)) + (-1))) &&& 1)))), .second, (.val (.int ((((((((0 + 1) + 1) + 1) + 1) + 1) + 1) + 1) + 1))), (.val (.int (0))), (.val (.int (1))), (.val (.int (((3 - 1) + (-1)) + (-1)))), (.val (.int ((0 + (((XT.ushrL (Int64.ofNat t2.1) (((3 - 1) + (-1)) + (-1))) &&& 1).toInt32)) + (((XT.ushrL (Int64.ofNat t3.1) (((3 - 1) + (-1)) + (-1))) &&& 1).toInt32)))), (.val (.int (0))), (.val (.int ((0 + 1) + 1))), (.val (.long ((XT.ushrL (Int64.ofNat t3.1) (((3 - 1) + (-1)) + (-1))) &&& 1))), .second] [] [.inl ("com/example/reshelve/reshelve/service/sort/ZCurve", [(("com/example/reshelve/reshelve/service/sort/ZCurve", "dimensions", "I"), (.int (3))), (("com/example/reshelve/reshelve/service/sort/ZCurve", "bits", "I"), (.int (3))), (("com/example/reshelve/reshelve/service/sort/ZCurve", "words", "I"), (.int (1)))]), .inr (.long, [(.long (Int64.ofNat t1.1)), (.long (Int64.ofNat t2.1)), (.long (Int64.ofNat t3.1))]), .inr (.long, [(.long (0))])] _ _ _
      refine W.goto d3_121 ?_
      show W l Z n m3 41 [(.val (.ref 0)), (.val (.ref 1)), (.val (.ref 2)), (.val (.long (((((((((((((((((0 : Int64) <<< ((1 : Int32) &&& 0x3f).toInt64) ||| ((XT.ushrL (Int64.ofNat t1.1) (3 - 1)) &&& 1)) <<< ((1 : Int32) &&& 0x3f).toInt64) ||| ((XT.ushrL (Int64.ofNat t2.1) (3 - 1)) &&& 1)) <<< ((1 : Int32) &&& 0x3f).toInt64) ||| ((XT.ushrL (Int64.ofNat t3.1) (3 - 1)) &&& 1)) <<< ((1 : Int32) &&& 0x3f).toInt64) ||| ((XT.ushrL (Int64.ofNat t1.1) ((3 - 1) + (-1))) &&& 1)) <<< ((1 : Int32) &&& 0x3f).toInt64) ||| ((XT.ushrL (Int64.ofNat t2.1) ((3 - 1) + (-1))) &&& 1)) <<< ((1 : Int32) &&& 0x3f).toInt64) ||| ((XT.ushrL (Int64.ofNat t3.1) ((3 - 1) + (-1))) &&& 1)) <<< ((1 : Int32) &&& 0x3f).toInt64) ||| ((XT.ushrL (Int64.ofNat t2.1) (((3 - 1) + (-1)) + (-1))) &&& 1)) <<< ((1 : Int32) &&& 0x3f).toInt64) ||| ((XT.ushrL (Int64.ofNat t3.1) (((3 - 1) + (-1)) + (-1))) &&& 1)))), .second, (.val (.int ((((((((0 + 1) + 1) + 1) + 1) + 1) + 1) + 1) + 1))), (.val (.int (0))), (.val (.int (1))), (.val (.int (((3 - 1) + (-1)) + (-1)))), (.val (.int ((0 + (((XT.ushrL (Int64.ofNat t2.1) (((3 - 1) + (-1)) + (-1))) &&& 1).toInt32)) + (((XT.ushrL (Int64.ofNat t3.1) (((3 - 1) + (-1)) + (-1))) &&& 1).toInt32)))), (.val (.int (0))), (.val (.int ((0 + 1) + 1))), (.val (.long ((XT.ushrL (Int64.ofNat t3.1) (((3 - 1) + (-1)) + (-1))) &&& 1))), .second] [] [.inl ("com/example/reshelve/reshelve/service/sort/ZCurve", [(("com/example/reshelve/reshelve/service/sort/ZCurve", "dimensions", "I"), (.int (3))), (("com/example/reshelve/reshelve/service/sort/ZCurve", "bits", "I"), (.int (3))), (("com/example/reshelve/reshelve/service/sort/ZCurve", "words", "I"), (.int (1)))]), .inr (.long, [(.long (Int64.ofNat t1.1)), (.long (Int64.ofNat t2.1)), (.long (Int64.ofNat t3.1))]), .inr (.long, [(.long (0))])] _ _ _
      refine W.iload d3_41 rfl ?_
      refine W.aloadN d3_43 rfl rfl ?_
      refine W.getfield 0 d3_44 (hw _ (wd 10 rfl)) rfl rfl ?_
      refine W.icmp_ge d3_47 (fun h => False.elim (by revert h; decide)) (fun h47 => ?_)
      refine W.aloadN d3_50 rfl rfl ?_
      refine W.iload d3_51 rfl ?_
      refine W.laload (i := 0) d3_53 rfl ⟨by decide, by decide⟩ rfl ?_
      refine W.iload d3_54 rfl ?_
      refine W.lushr d3_56 ?_
      refine W.lconst 1 d3_57 rfl ?_
      refine W.land d3_58 ?_
      refine W.lstore d3_59 rfl ?_
      refine W.lloadN d3_61 rfl ?_
      refine W.iconst 1 d3_62 rfl ?_
      refine W.lshl d3_63 ?_
      refine W.lload d3_64 rfl ?_
      refine W.lor d3_66 ?_
      refine W.lstoreN d3_67 rfl ?_
      refine W.iinc 1 d3_68 rfl rfl ?_
      refine W.iload d3_71 rfl ?_
      refine W.bipush 64 d3_73 rfl ?_
      refine W.icmp_ne d3_75 (fun h75 => ?_) (fun h => False.elim (by revert h; decide))
      refine W.iload d3_89 rfl ?_
      refine W.lload d3_91 rfl ?_
      refine W.l2i d3_93 ?_
      refine W.iadd d3_94 ?_
      refine W.istore d3_95 rfl ?_
      show WB _ l Z n m3 97 [(.val (.ref 0)), (.val (.ref 1)), (.val (.ref 2)), (.val (.long (((((((((((((((((((0 : Int64) <<< ((1 : Int32) &&& 0x3f).toInt64) ||| ((XT.ushrL (Int64.ofNat t1.1) (3 - 1)) &&& 1)) <<< ((1 : Int32) &&& 0x3f).toInt64) ||| ((XT.ushrL (Int64.ofNat t2.1) (3 - 1)) &&& 1)) <<< ((1 : Int32) &&& 0x3f).toInt64) ||| ((XT.ushrL (Int64.ofNat t3.1) (3 - 1)) &&& 1)) <<< ((1 : Int32) &&& 0x3f).toInt64) ||| ((XT.ushrL (Int64.ofNat t1.1) ((3 - 1) + (-1))) &&& 1)) <<< ((1 : Int32) &&& 0x3f).toInt64) ||| ((XT.ushrL (Int64.ofNat t2.1) ((3 - 1) + (-1))) &&& 1)) <<< ((1 : Int32) &&& 0x3f).toInt64) ||| ((XT.ushrL (Int64.ofNat t3.1) ((3 - 1) + (-1))) &&& 1)) <<< ((1 : Int32) &&& 0x3f).toInt64) ||| ((XT.ushrL (Int64.ofNat t2.1) (((3 - 1) + (-1)) + (-1))) &&& 1)) <<< ((1 : Int32) &&& 0x3f).toInt64) ||| ((XT.ushrL (Int64.ofNat t3.1) (((3 - 1) + (-1)) + (-1))) &&& 1)) <<< ((1 : Int32) &&& 0x3f).toInt64) ||| ((XT.ushrL (Int64.ofNat t1.1) (((3 - 1) + (-1)) + (-1))) &&& 1)))), .second, (.val (.int (((((((((0 + 1) + 1) + 1) + 1) + 1) + 1) + 1) + 1) + 1))), (.val (.int (0))), (.val (.int (1))), (.val (.int (((3 - 1) + (-1)) + (-1)))), (.val (.int (((0 + (((XT.ushrL (Int64.ofNat t2.1) (((3 - 1) + (-1)) + (-1))) &&& 1).toInt32)) + (((XT.ushrL (Int64.ofNat t3.1) (((3 - 1) + (-1)) + (-1))) &&& 1).toInt32)) + (((XT.ushrL (Int64.ofNat t1.1) (((3 - 1) + (-1)) + (-1))) &&& 1).toInt32)))), (.val (.int (0))), (.val (.int ((0 + 1) + 1))), (.val (.long ((XT.ushrL (Int64.ofNat t1.1) (((3 - 1) + (-1)) + (-1))) &&& 1))), .second] [] [.inl ("com/example/reshelve/reshelve/service/sort/ZCurve", [(("com/example/reshelve/reshelve/service/sort/ZCurve", "dimensions", "I"), (.int (3))), (("com/example/reshelve/reshelve/service/sort/ZCurve", "bits", "I"), (.int (3))), (("com/example/reshelve/reshelve/service/sort/ZCurve", "words", "I"), (.int (1)))]), .inr (.long, [(.long (Int64.ofNat t1.1)), (.long (Int64.ofNat t2.1)), (.long (Int64.ofNat t3.1))]), .inr (.long, [(.long (0))])] _ _ _
      refine W.iload d3_97 rfl ?_
      refine W.iconst 1 d3_99 rfl ?_
      refine W.iadd d3_100 ?_
      refine W.aloadN d3_101 rfl rfl ?_
      refine W.getfield 0 d3_102 (hw _ (wd 10 rfl)) rfl rfl ?_
      refine W.icmp_ne d3_105 (fun h105 => ?_) (fun h => False.elim (by revert h; decide))
      refine W.iload d3_112 rfl ?_
      refine W.iconst 1 d3_114 rfl ?_
      refine W.iadd d3_115 ?_
      refine W.istore d3_116 rfl ?_
      refine W.iinc 1 d3_118 rfl rfl ?_
      refine W.goto d3_121 ?_
      show W l Z n m3 41 [(.val (.ref 0)), (.val (.ref 1)), (.val (.ref 2)), (.val (.long (((((((((((((((((((0 : Int64) <<< ((1 : Int32) &&& 0x3f).toInt64) ||| ((XT.ushrL (Int64.ofNat t1.1) (3 - 1)) &&& 1)) <<< ((1 : Int32) &&& 0x3f).toInt64) ||| ((XT.ushrL (Int64.ofNat t2.1) (3 - 1)) &&& 1)) <<< ((1 : Int32) &&& 0x3f).toInt64) ||| ((XT.ushrL (Int64.ofNat t3.1) (3 - 1)) &&& 1)) <<< ((1 : Int32) &&& 0x3f).toInt64) ||| ((XT.ushrL (Int64.ofNat t1.1) ((3 - 1) + (-1))) &&& 1)) <<< ((1 : Int32) &&& 0x3f).toInt64) ||| ((XT.ushrL (Int64.ofNat t2.1) ((3 - 1) + (-1))) &&& 1)) <<< ((1 : Int32) &&& 0x3f).toInt64) ||| ((XT.ushrL (Int64.ofNat t3.1) ((3 - 1) + (-1))) &&& 1)) <<< ((1 : Int32) &&& 0x3f).toInt64) ||| ((XT.ushrL (Int64.ofNat t2.1) (((3 - 1) + (-1)) + (-1))) &&& 1)) <<< ((1 : Int32) &&& 0x3f).toInt64) ||| ((XT.ushrL (Int64.ofNat t3.1) (((3 - 1) + (-1)) + (-1))) &&& 1)) <<< ((1 : Int32) &&& 0x3f).toInt64) ||| ((XT.ushrL (Int64.ofNat t1.1) (((3 - 1) + (-1)) + (-1))) &&& 1)))), .second, (.val (.int (((((((((0 + 1) + 1) + 1) + 1) + 1) + 1) + 1) + 1) + 1))), (.val (.int (0))), (.val (.int (1))), (.val (.int (((3 - 1) + (-1)) + (-1)))), (.val (.int (((0 + (((XT.ushrL (Int64.ofNat t2.1) (((3 - 1) + (-1)) + (-1))) &&& 1).toInt32)) + (((XT.ushrL (Int64.ofNat t3.1) (((3 - 1) + (-1)) + (-1))) &&& 1).toInt32)) + (((XT.ushrL (Int64.ofNat t1.1) (((3 - 1) + (-1)) + (-1))) &&& 1).toInt32)))), (.val (.int (0 + 1))), (.val (.int (((0 + 1) + 1) + 1))), (.val (.long ((XT.ushrL (Int64.ofNat t1.1) (((3 - 1) + (-1)) + (-1))) &&& 1))), .second] [] [.inl ("com/example/reshelve/reshelve/service/sort/ZCurve", [(("com/example/reshelve/reshelve/service/sort/ZCurve", "dimensions", "I"), (.int (3))), (("com/example/reshelve/reshelve/service/sort/ZCurve", "bits", "I"), (.int (3))), (("com/example/reshelve/reshelve/service/sort/ZCurve", "words", "I"), (.int (1)))]), .inr (.long, [(.long (Int64.ofNat t1.1)), (.long (Int64.ofNat t2.1)), (.long (Int64.ofNat t3.1))]), .inr (.long, [(.long (0))])] _ _ _
      refine W.iload d3_41 rfl ?_
      refine W.aloadN d3_43 rfl rfl ?_
      refine W.getfield 0 d3_44 (hw _ (wd 10 rfl)) rfl rfl ?_
      refine W.icmp_ge d3_47 (fun h47 => ?_) (fun h => False.elim (by revert h; decide))
      refine W.iload d3_124 rfl ?_
      refine W.iload d3_126 rfl ?_
      refine W.iadd d3_128 ?_
      refine W.istore d3_129 rfl ?_
      refine W.iload d3_131 rfl ?_
      refine W.aloadN d3_133 rfl rfl ?_
      refine W.getfield 0 d3_134 (hw _ (wd 10 rfl)) rfl rfl ?_
      refine W.icmp_lt d3_137 (fun h137 => ?_) (fun h137 => ?_)
      · refine W.iinc (-1) d3_149 rfl rfl ?_
        show WB _ l Z n m3 152 [(.val (.ref 0)), (.val (.ref 1)), (.val (.ref 2)), (.val (.long (((((((((((((((((((0 : Int64) <<< ((1 : Int32) &&& 0x3f).toInt64) ||| ((XT.ushrL (Int64.ofNat t1.1) (3 - 1)) &&& 1)) <<< ((1 : Int32) &&& 0x3f).toInt64) ||| ((XT.ushrL (Int64.ofNat t2.1) (3 - 1)) &&& 1)) <<< ((1 : Int32) &&& 0x3f).toInt64) ||| ((XT.ushrL (Int64.ofNat t3.1) (3 - 1)) &&& 1)) <<< ((1 : Int32) &&& 0x3f).toInt64) ||| ((XT.ushrL (Int64.ofNat t1.1) ((3 - 1) + (-1))) &&& 1)) <<< ((1 : Int32) &&& 0x3f).toInt64) ||| ((XT.ushrL (Int64.ofNat t2.1) ((3 - 1) + (-1))) &&& 1)) <<< ((1 : Int32) &&& 0x3f).toInt64) ||| ((XT.ushrL (Int64.ofNat t3.1) ((3 - 1) + (-1))) &&& 1)) <<< ((1 : Int32) &&& 0x3f).toInt64) ||| ((XT.ushrL (Int64.ofNat t2.1) (((3 - 1) + (-1)) + (-1))) &&& 1)) <<< ((1 : Int32) &&& 0x3f).toInt64) ||| ((XT.ushrL (Int64.ofNat t3.1) (((3 - 1) + (-1)) + (-1))) &&& 1)) <<< ((1 : Int32) &&& 0x3f).toInt64) ||| ((XT.ushrL (Int64.ofNat t1.1) (((3 - 1) + (-1)) + (-1))) &&& 1)))), .second, (.val (.int (((((((((0 + 1) + 1) + 1) + 1) + 1) + 1) + 1) + 1) + 1))), (.val (.int (0))), (.val (.int (1 + (((0 + (((XT.ushrL (Int64.ofNat t2.1) (((3 - 1) + (-1)) + (-1))) &&& 1).toInt32)) + (((XT.ushrL (Int64.ofNat t3.1) (((3 - 1) + (-1)) + (-1))) &&& 1).toInt32)) + (((XT.ushrL (Int64.ofNat t1.1) (((3 - 1) + (-1)) + (-1))) &&& 1).toInt32))))), (.val (.int ((((3 - 1) + (-1)) + (-1)) + (-1)))), (.val (.int (((0 + (((XT.ushrL (Int64.ofNat t2.1) (((3 - 1) + (-1)) + (-1))) &&& 1).toInt32)) + (((XT.ushrL (Int64.ofNat t3.1) (((3 - 1) + (-1)) + (-1))) &&& 1).toInt32)) + (((XT.ushrL (Int64.ofNat t1.1) (((3 - 1) + (-1)) + (-1))) &&& 1).toInt32)))), (.val (.int (0 + 1))), (.val (.int (((0 + 1) + 1) + 1))), (.val (.long ((XT.ushrL (Int64.ofNat t1.1) (((3 - 1) + (-1)) + (-1))) &&& 1))), .second] [] [.inl ("com/example/reshelve/reshelve/service/sort/ZCurve", [(("com/example/reshelve/reshelve/service/sort/ZCurve", "dimensions", "I"), (.int (3))), (("com/example/reshelve/reshelve/service/sort/ZCurve", "bits", "I"), (.int (3))), (("com/example/reshelve/reshelve/service/sort/ZCurve", "words", "I"), (.int (1)))]), .inr (.long, [(.long (Int64.ofNat t1.1)), (.long (Int64.ofNat t2.1)), (.long (Int64.ofNat t3.1))]), .inr (.long, [(.long (0))])] _ _ _
        refine W.goto d3_152 ?_
        refine W.iload d3_26 rfl ?_
        refine W.if_lt d3_28 (fun h28 => ?_) (fun h => False.elim (by revert h; decide))
        refine W.iload d3_155 rfl ?_
        refine W.if_le d3_157 (fun h => False.elim (by revert h; decide)) (fun h157 => ?_)
        refine W.aloadN d3_160 rfl rfl ?_
        refine W.iload d3_161 rfl ?_
        refine W.lloadN d3_163 rfl ?_
        refine W.bipush 64 d3_164 rfl ?_
        refine W.iload d3_166 rfl ?_
        refine W.isub d3_168 ?_
        refine W.lshl d3_169 ?_
        refine W.lastore (i := 0) d3_170 rfl ⟨by decide, by decide⟩ (by simp) ?_
        refine W.aloadN d3_171 rfl rfl ?_
        exact W.areturn d3_172 rfl rfl rfl (by decide) (by decide) (⟨rfl, by rw [own_k3 t1 t2 t3 q0 q1] <;> rfl⟩)
      · refine W.iload d3_140 rfl ?_
        refine W.aloadN d3_142 rfl rfl ?_
        refine W.getfield 0 d3_143 (hw _ (wd 10 rfl)) rfl rfl ?_
        refine W.isub d3_146 ?_
        refine W.istore d3_147 rfl ?_
        show WB _ l Z n m3 149 [(.val (.ref 0)), (.val (.ref 1)), (.val (.ref 2)), (.val (.long (((((((((((((((((((0 : Int64) <<< ((1 : Int32) &&& 0x3f).toInt64) ||| ((XT.ushrL (Int64.ofNat t1.1) (3 - 1)) &&& 1)) <<< ((1 : Int32) &&& 0x3f).toInt64) ||| ((XT.ushrL (Int64.ofNat t2.1) (3 - 1)) &&& 1)) <<< ((1 : Int32) &&& 0x3f).toInt64) ||| ((XT.ushrL (Int64.ofNat t3.1) (3 - 1)) &&& 1)) <<< ((1 : Int32) &&& 0x3f).toInt64) ||| ((XT.ushrL (Int64.ofNat t1.1) ((3 - 1) + (-1))) &&& 1)) <<< ((1 : Int32) &&& 0x3f).toInt64) ||| ((XT.ushrL (Int64.ofNat t2.1) ((3 - 1) + (-1))) &&& 1)) <<< ((1 : Int32) &&& 0x3f).toInt64) ||| ((XT.ushrL (Int64.ofNat t3.1) ((3 - 1) + (-1))) &&& 1)) <<< ((1 : Int32) &&& 0x3f).toInt64) ||| ((XT.ushrL (Int64.ofNat t2.1) (((3 - 1) + (-1)) + (-1))) &&& 1)) <<< ((1 : Int32) &&& 0x3f).toInt64) ||| ((XT.ushrL (Int64.ofNat t3.1) (((3 - 1) + (-1)) + (-1))) &&& 1)) <<< ((1 : Int32) &&& 0x3f).toInt64) ||| ((XT.ushrL (Int64.ofNat t1.1) (((3 - 1) + (-1)) + (-1))) &&& 1)))), .second, (.val (.int (((((((((0 + 1) + 1) + 1) + 1) + 1) + 1) + 1) + 1) + 1))), (.val (.int (0))), (.val (.int ((1 + (((0 + (((XT.ushrL (Int64.ofNat t2.1) (((3 - 1) + (-1)) + (-1))) &&& 1).toInt32)) + (((XT.ushrL (Int64.ofNat t3.1) (((3 - 1) + (-1)) + (-1))) &&& 1).toInt32)) + (((XT.ushrL (Int64.ofNat t1.1) (((3 - 1) + (-1)) + (-1))) &&& 1).toInt32))) - 3))), (.val (.int (((3 - 1) + (-1)) + (-1)))), (.val (.int (((0 + (((XT.ushrL (Int64.ofNat t2.1) (((3 - 1) + (-1)) + (-1))) &&& 1).toInt32)) + (((XT.ushrL (Int64.ofNat t3.1) (((3 - 1) + (-1)) + (-1))) &&& 1).toInt32)) + (((XT.ushrL (Int64.ofNat t1.1) (((3 - 1) + (-1)) + (-1))) &&& 1).toInt32)))), (.val (.int (0 + 1))), (.val (.int (((0 + 1) + 1) + 1))), (.val (.long ((XT.ushrL (Int64.ofNat t1.1) (((3 - 1) + (-1)) + (-1))) &&& 1))), .second] [] [.inl ("com/example/reshelve/reshelve/service/sort/ZCurve", [(("com/example/reshelve/reshelve/service/sort/ZCurve", "dimensions", "I"), (.int (3))), (("com/example/reshelve/reshelve/service/sort/ZCurve", "bits", "I"), (.int (3))), (("com/example/reshelve/reshelve/service/sort/ZCurve", "words", "I"), (.int (1)))]), .inr (.long, [(.long (Int64.ofNat t1.1)), (.long (Int64.ofNat t2.1)), (.long (Int64.ofNat t3.1))]), .inr (.long, [(.long (0))])] _ _ _
        refine W.iinc (-1) d3_149 rfl rfl ?_
        refine W.goto d3_152 ?_
        refine W.iload d3_26 rfl ?_
        refine W.if_lt d3_28 (fun h28 => ?_) (fun h => False.elim (by revert h; decide))
        refine W.iload d3_155 rfl ?_
        refine W.if_le d3_157 (fun h => False.elim (by revert h; decide)) (fun h157 => ?_)
        refine W.aloadN d3_160 rfl rfl ?_
        refine W.iload d3_161 rfl ?_
        refine W.lloadN d3_163 rfl ?_
        refine W.bipush 64 d3_164 rfl ?_
        refine W.iload d3_166 rfl ?_
        refine W.isub d3_168 ?_
        refine W.lshl d3_169 ?_
        refine W.lastore (i := 0) d3_170 rfl ⟨by decide, by decide⟩ (by simp) ?_
        refine W.aloadN d3_171 rfl rfl ?_
        exact W.areturn d3_172 rfl rfl rfl (by decide) (by decide) (⟨rfl, by rw [own_k3 t1 t2 t3 q0 q1] <;> rfl⟩)
    · rw [q1]
      refine W.istore d3_129 rfl ?_
      show WB _ l Z n m3 131 [(.val (.ref 0)), (.val (.ref 1)), (.val (.ref 2)), (.val (.long (((((((((((((0 : Int64) <<< ((1 : Int32) &&& 0x3f).toInt64) ||| ((XT.ushrL (Int64.ofNat t1.1) (3 - 1)) &&& 1)) <<< ((1 : Int32) &&& 0x3f).toInt64) ||| ((XT.ushrL (Int64.ofNat t2.1) (3 - 1)) &&& 1)) <<< ((1 : Int32) &&& 0x3f).toInt64) ||| ((XT.ushrL (Int64.ofNat t3.1) (3 - 1)) &&& 1)) <<< ((1 : Int32) &&& 0x3f).toInt64) ||| ((XT.ushrL (Int64.ofNat t1.1) ((3 - 1) + (-1))) &&& 1)) <<< ((1 : Int32) &&& 0x3f).toInt64) ||| ((XT.ushrL (Int64.ofNat t2.1) ((3 - 1) + (-1))) &&& 1)) <<< ((1 : Int32) &&& 0x3f).toInt64) ||| ((XT.ushrL (Int64.ofNat t3.1) ((3 - 1) + (-1))) &&& 1)))), .second, (.val (.int ((((((0 + 1) + 1) + 1) + 1) + 1) + 1))), (.val (.int (0))), (.val (.int (2))), (.val (.int ((3 - 1) + (-1)))), (.val (.int (((0 + (((XT.ushrL (Int64.ofNat t1.1) ((3 - 1) + (-1))) &&& 1).toInt32)) + (((XT.ushrL (Int64.ofNat t2.1) ((3 - 1) + (-1))) &&& 1).toInt32)) + (((XT.ushrL (Int64.ofNat t3.1) ((3 - 1) + (-1))) &&& 1).toInt32)))), (.val (.int (0))), (.val (.int (((0 + 1) + 1) + 1))), (.val (.long ((XT.ushrL (Int64.ofNat t3.1) ((3 - 1) + (-1))) &&& 1))), .second] [] [.inl ("com/example/reshelve/reshelve/service/sort/ZCurve", [(("com/example/reshelve/reshelve/service/sort/ZCurve", "dimensions", "I"), (.int (3))), (("com/example/reshelve/reshelve/service/sort/ZCurve", "bits", "I"), (.int (3))), (("com/example/reshelve/reshelve/service/sort/ZCurve", "words", "I"), (.int (1)))]), .inr (.long, [(.long (Int64.ofNat t1.1)), (.long (Int64.ofNat t2.1)), (.long (Int64.ofNat t3.1))]), .inr (.long, [(.long (0))])] _ _ _
      refine W.iload d3_131 rfl ?_
      refine W.aloadN d3_133 rfl rfl ?_
      refine W.getfield 0 d3_134 (hw _ (wd 10 rfl)) rfl rfl ?_
      refine W.icmp_lt d3_137 (fun h137 => ?_) (fun h => False.elim (by revert h; decide))
      refine W.iinc (-1) d3_149 rfl rfl ?_
      refine W.goto d3_152 ?_
      refine W.iload d3_26 rfl ?_
      refine W.if_lt d3_28 (fun h => False.elim (by revert h; decide)) (fun h28 => ?_)
      refine W.iconst 0 d3_31 rfl ?_
      refine W.istore d3_32 rfl ?_
      refine W.iload d3_34 rfl ?_
      refine W.istore d3_36 rfl ?_
      refine W.iconst 0 d3_38 rfl ?_
      refine W.istore d3_39 rfl ?_
      show W l Z n m3 41 [(.val (.ref 0)), (.val (.ref 1)), (.val (.ref 2)), (.val (.long (((((((((((((0 : Int64) <<< ((1 : Int32) &&& 0x3f).toInt64) ||| ((XT.ushrL (Int64.ofNat t1.1) (3 - 1)) &&& 1)) <<< ((1 : Int32) &&& 0x3f).toInt64) ||| ((XT.ushrL (Int64.ofNat t2.1) (3 - 1)) &&& 1)) <<< ((1 : Int32) &&& 0x3f).toInt64) ||| ((XT.ushrL (Int64.ofNat t3.1) (3 - 1)) &&& 1)) <<< ((1 : Int32) &&& 0x3f).toInt64) ||| ((XT.ushrL (Int64.ofNat t1.1) ((3 - 1) + (-1))) &&& 1)) <<< ((1 : Int32) &&& 0x3f).toInt64) ||| ((XT.ushrL (Int64.ofNat t2.1) ((3 - 1) + (-1))) &&& 1)) <<< ((1 : Int32) &&& 0x3f).toInt64) ||| ((XT.ushrL (Int64.ofNat t3.1) ((3 - 1) + (-1))) &&& 1)))), .second, (.val (.int ((((((0 + 1) + 1) + 1) + 1) + 1) + 1))), (.val (.int (0))), (.val (.int (2))), (.val (.int (((3 - 1) + (-1)) + (-1)))), (.val (.int (0))), (.val (.int (2))), (.val (.int (0))), (.val (.long ((XT.ushrL (Int64.ofNat t3.1) ((3 - 1) + (-1))) &&& 1))), .second] [] [.inl ("com/example/reshelve/reshelve/service/sort/ZCurve", [(("com/example/reshelve/reshelve/service/sort/ZCurve", "dimensions", "I"), (.int (3))), (("com/example/reshelve/reshelve/service/sort/ZCurve", "bits", "I"), (.int (3))), (("com/example/reshelve/reshelve/service/sort/ZCurve", "words", "I"), (.int (1)))]), .inr (.long, [(.long (Int64.ofNat t1.1)), (.long (Int64.ofNat t2.1)), (.long (Int64.ofNat t3.1))]), .inr (.long, [(.long (0))])] _ _ _
      show WB _ l Z n m3 41 [(.val (.ref 0)), (.val (.ref 1)), (.val (.ref 2)), (.val (.long (((((((((((((0 : Int64) <<< ((1 : Int32) &&& 0x3f).toInt64) ||| ((XT.ushrL (Int64.ofNat t1.1) (3 - 1)) &&& 1)) <<< ((1 : Int32) &&& 0x3f).toInt64) ||| ((XT.ushrL (Int64.ofNat t2.1) (3 - 1)) &&& 1)) <<< ((1 : Int32) &&& 0x3f).toInt64) ||| ((XT.ushrL (Int64.ofNat t3.1) (3 - 1)) &&& 1)) <<< ((1 : Int32) &&& 0x3f).toInt64) ||| ((XT.ushrL (Int64.ofNat t1.1) ((3 - 1) + (-1))) &&& 1)) <<< ((1 : Int32) &&& 0x3f).toInt64) ||| ((XT.ushrL (Int64.ofNat t2.1) ((3 - 1) + (-1))) &&& 1)) <<< ((1 : Int32) &&& 0x3f).toInt64) ||| ((XT.ushrL (Int64.ofNat t3.1) ((3 - 1) + (-1))) &&& 1)))), .second, (.val (.int ((((((0 + 1) + 1) + 1) + 1) + 1) + 1))), (.val (.int (0))), (.val (.int (2))), (.val (.int (((3 - 1) + (-1)) + (-1)))), (.val (.int (0))), (.val (.int (2))), (.val (.int (0))), (.val (.long ((XT.ushrL (Int64.ofNat t3.1) ((3 - 1) + (-1))) &&& 1))), .second] [] [.inl ("com/example/reshelve/reshelve/service/sort/ZCurve", [(("com/example/reshelve/reshelve/service/sort/ZCurve", "dimensions", "I"), (.int (3))), (("com/example/reshelve/reshelve/service/sort/ZCurve", "bits", "I"), (.int (3))), (("com/example/reshelve/reshelve/service/sort/ZCurve", "words", "I"), (.int (1)))]), .inr (.long, [(.long (Int64.ofNat t1.1)), (.long (Int64.ofNat t2.1)), (.long (Int64.ofNat t3.1))]), .inr (.long, [(.long (0))])] _ _ _
      refine W.iload d3_41 rfl ?_
      refine W.aloadN d3_43 rfl rfl ?_
      refine W.getfield 0 d3_44 (hw _ (wd 10 rfl)) rfl rfl ?_
      refine W.icmp_ge d3_47 (fun h => False.elim (by revert h; decide)) (fun h47 => ?_)
      refine W.aloadN d3_50 rfl rfl ?_
      refine W.iload d3_51 rfl ?_
      refine W.laload (i := 2) d3_53 rfl ⟨by decide, by decide⟩ rfl ?_
      refine W.iload d3_54 rfl ?_
      refine W.lushr d3_56 ?_
      refine W.lconst 1 d3_57 rfl ?_
      refine W.land d3_58 ?_
      refine W.lstore d3_59 rfl ?_
      refine W.lloadN d3_61 rfl ?_
      refine W.iconst 1 d3_62 rfl ?_
      refine W.lshl d3_63 ?_
      refine W.lload d3_64 rfl ?_
      refine W.lor d3_66 ?_
      refine W.lstoreN d3_67 rfl ?_
      refine W.iinc 1 d3_68 rfl rfl ?_
      refine W.iload d3_71 rfl ?_
      refine W.bipush 64 d3_73 rfl ?_
      refine W.icmp_ne d3_75 (fun h75 => ?_) (fun h => False.elim (by revert h; decide))
      refine W.iload d3_89 rfl ?_
      refine W.lload d3_91 rfl ?_
      refine W.l2i d3_93 ?_
      refine W.iadd d3_94 ?_
      refine W.istore d3_95 rfl ?_
      show WB _ l Z n m3 97 [(.val (.ref 0)), (.val (.ref 1)), (.val (.ref 2)), (.val (.long (((((((((((((((0 : Int64) <<< ((1 : Int32) &&& 0x3f).toInt64) ||| ((XT.ushrL (Int64.ofNat t1.1) (3 - 1)) &&& 1)) <<< ((1 : Int32) &&& 0x3f).toInt64) ||| ((XT.ushrL (Int64.ofNat t2.1) (3 - 1)) &&& 1)) <<< ((1 : Int32) &&& 0x3f).toInt64) ||| ((XT.ushrL (Int64.ofNat t3.1) (3 - 1)) &&& 1)) <<< ((1 : Int32) &&& 0x3f).toInt64) ||| ((XT.ushrL (Int64.ofNat t1.1) ((3 - 1) + (-1))) &&& 1)) <<< ((1 : Int32) &&& 0x3f).toInt64) ||| ((XT.ushrL (Int64.ofNat t2.1) ((3 - 1) + (-1))) &&& 1)) <<< ((1 : Int32) &&& 0x3f).toInt64) ||| ((XT.ushrL (Int64.ofNat t3.1) ((3 - 1) + (-1))) &&& 1)) <<< ((1 : Int32) &&& 0x3f).toInt64) ||| ((XT.ushrL (Int64.ofNat t3.1) (((3 - 1) + (-1)) + (-1))) &&& 1)))), .second, (.val (.int (((((((0 + 1) + 1) + 1) + 1) + 1) + 1) + 1))), (.val (.int (0))), (.val (.int (2))), (.val (.int (((3 - 1) + (-1)) + (-1)))), (.val (.int (0 + (((XT.ushrL (Int64.ofNat t3.1) (((3 - 1) + (-1)) + (-1))) &&& 1).toInt32)))), (.val (.int (2))), (.val (.int (0))), (.val (.long ((XT.ushrL (Int64.ofNat t3.1) (((3 - 1) + (-1)) + (-1))) &&& 1))), .second] [] [.inl ("com/example/reshelve/reshelve/service/sort/ZCurve", [(("com/example/reshelve/reshelve/service/sort/ZCurve", "dimensions", "I"), (.int (3))), (("com/example/reshelve/reshelve/service/sort/ZCurve", "bits", "I"), (.int (3))), (("com/example/reshelve/reshelve/service/sort/ZCurve", "words", "I"), (.int (1)))]), .inr (.long, [(.long (Int64.ofNat t1.1)), (.long (Int64.ofNat t2.1)), (.long (Int64.ofNat t3.1))]), .inr (.long, [(.long (0))])] _ _ _
      refine W.iload d3_97 rfl ?_
      refine W.iconst 1 d3_99 rfl ?_
      refine W.iadd d3_100 ?_
      refine W.aloadN d3_101 rfl rfl ?_
      refine W.getfield 0 d3_102 (hw _ (wd 10 rfl)) rfl rfl ?_
      refine W.icmp_ne d3_105 (fun h => False.elim (by revert h; decide)) (fun h105 => ?_)
      refine W.iconst 0 d3_108 rfl ?_
      refine W.goto d3_109 ?_
      refine W.istore d3_116 rfl ?_
      refine W.iinc 1 d3_118 rfl rfl ?_
      refine W.goto d3_121 ?_
      show W l Z n m3 41 [(.val (.ref 0)), (.val (.ref 1)), (.val (.ref 2)), (.val (.long (((((((((((((((0 : Int64) <<< ((1 : Int32) &&& 0x3f).toInt64) ||| ((XT.ushrL (Int64.ofNat t1.1) (3 - 1)) &&& 1)) <<< ((1 : Int32) &&& 0x3f).toInt64) ||| ((XT.ushrL (Int64.ofNat t2.1) (3 - 1)) &&& 1)) <<< ((1 : Int32) &&& 0x3f).toInt64) ||| ((XT.ushrL (Int64.ofNat t3.1) (3 - 1)) &&& 1)) <<< ((1 : Int32) &&& 0x3f).toInt64) ||| ((XT.ushrL (Int64.ofNat t1.1) ((3 - 1) + (-1))) &&& 1)) <<< ((1 : Int32) &&& 0x3f).toInt64) ||| ((XT.ushrL (Int64.ofNat t2.1) ((3 - 1) + (-1))) &&& 1)) <<< ((1 : Int32) &&& 0x3f).toInt64) ||| ((XT.ushrL (Int64.ofNat t3.1) ((3 - 1) + (-1))) &&& 1)) <<< ((1 : Int32) &&& 0x3f).toInt64) ||| ((XT.ushrL (Int64.ofNat t3.1) (((3 - 1) + (-1)) + (-1))) &&& 1)))), .second, (.val (.int (((((((0 + 1) + 1) + 1) + 1) + 1) + 1) + 1))), (.val (.int (0))), (.val (.int (2))), (.val (.int (((3 - 1) + (-1)) + (-1)))), (.val (.int (0 + (((XT.ushrL (Int64.ofNat t3.1) (((3 - 1) + (-1)) + (-1))) &&& 1).toInt32)))), (.val (.int (0))), (.val (.int (0 + 1))), (.val (.long ((XT.ushrL (Int64.ofNat t3.1) (((3 - 1) + (-1)) + (-1))) &&& 1))), .second] [] [.inl ("com/example/reshelve/reshelve/service/sort/ZCurve", [(("com/example/reshelve/reshelve/service/sort/ZCurve", "dimensions", "I"), (.int (3))), (("com/example/reshelve/reshelve/service/sort/ZCurve", "bits", "I"), (.int (3))), (("com/example/reshelve/reshelve/service/sort/ZCurve", "words", "I"), (.int (1)))]), .inr (.long, [(.long (Int64.ofNat t1.1)), (.long (Int64.ofNat t2.1)), (.long (Int64.ofNat t3.1))]), .inr (.long, [(.long (0))])] _ _ _
      refine W.iload d3_41 rfl ?_
      refine W.aloadN d3_43 rfl rfl ?_
      refine W.getfield 0 d3_44 (hw _ (wd 10 rfl)) rfl rfl ?_
      refine W.icmp_ge d3_47 (fun h => False.elim (by revert h; decide)) (fun h47 => ?_)
      refine W.aloadN d3_50 rfl rfl ?_
      refine W.iload d3_51 rfl ?_
      refine W.laload (i := 0) d3_53 rfl ⟨by decide, by decide⟩ rfl ?_
      refine W.iload d3_54 rfl ?_
      refine W.lushr d3_56 ?_
      refine W.lconst 1 d3_57 rfl ?_
      refine W.land d3_58 ?_
      refine W.lstore d3_59 rfl ?_
      refine W.lloadN d3_61 rfl ?_
      refine W.iconst 1 d3_62 rfl ?_
      refine W.lshl d3_63 ?_
      refine W.lload d3_64 rfl ?_
      refine W.lor d3_66 ?_
      refine W.lstoreN d3_67 rfl ?_
      show WB _ l Z n m3 68 [(.val (.ref 0)), (.val (.ref 1)), (.val (.ref 2)), (.val (.long (((((((((((((((((0 : Int64) <<< ((1 : Int32) &&& 0x3f).toInt64) ||| ((XT.ushrL (Int64.ofNat t1.1) (3 - 1)) &&& 1)) <<< ((1 : Int32) &&& 0x3f).toInt64) ||| ((XT.ushrL (Int64.ofNat t2.1) (3 - 1)) &&& 1)) <<< ((1 : Int32) &&& 0x3f).toInt64) ||| ((XT.ushrL (Int64.ofNat t3.1) (3 - 1)) &&& 1)) <<< ((1 : Int32) &&& 0x3f).toInt64) ||| ((XT.ushrL (Int64.ofNat t1.1) ((3 - 1) + (-1))) &&& 1)) <<< ((1 : Int32) &&& 0x3f).toInt64) ||| ((XT.ushrL (Int64.ofNat t2.1) ((3 - 1) + (-1))) &&& 1)) <<< ((1 : Int32) &&& 0x3f).toInt64) ||| ((XT.ushrL (Int64.ofNat t3.1) ((3 - 1) + (-1))) &&& 1)) <<< ((1 : Int32) &&& 0x3f).toInt64) ||| ((XT.ushrL (Int64.ofNat t3.1) (((3 - 1) + (-1)) + (-1))) &&& 1)) <<< ((1 : Int32) &&& 0x3f).toInt64) ||| ((XT.ushrL (Int64.ofNat t1.1) (((3 - 1) + (-1)) + (-1))) &&& 1)))), .second, (.val (.int (((((((0 + 1) + 1) + 1) + 1) + 1) + 1) + 1))), (.val (.int (0))), (.val (.int (2))), (.val (.int (((3 - 1) + (-1)) + (-1)))), (.val (.int (0 + (((XT.ushrL (Int64.ofNat t3.1) (((3 - 1) + (-1)) + (-1))) &&& 1).toInt32)))), (.val (.int (0))), (.val (.int (0 + 1))), (.val (.long ((XT.ushrL (Int64.ofNat t1.1) (((3 - 1) + (-1)) + (-1))) &&& 1))), .second] [] [.inl ("com/example/reshelve/reshelve/service/sort/ZCurve", [(("com/example/reshelve/reshelve/service/sort/ZCurve", "dimensions", "I"), (.int (3))), (("com/example/reshelve/reshelve/service/sort/ZCurve", "bits", "I"), (.int (3))), (("com/example/reshelve/reshelve/service/sort/ZCurve", "words", "I"), (.int (1)))]), .inr (.long, [(.long (Int64.ofNat t1.1)), (.long (Int64.ofNat t2.1)), (.long (Int64.ofNat t3.1))]), .inr (.long, [(.long (0))])] _ _ _
      refine W.iinc 1 d3_68 rfl rfl ?_
      refine W.iload d3_71 rfl ?_
      refine W.bipush 64 d3_73 rfl ?_
      refine W.icmp_ne d3_75 (fun h75 => ?_) (fun h => False.elim (by revert h; decide))
      refine W.iload d3_89 rfl ?_
      refine W.lload d3_91 rfl ?_
      refine W.l2i d3_93 ?_
      refine W.iadd d3_94 ?_
      refine W.istore d3_95 rfl ?_
      refine W.iload d3_97 rfl ?_
      refine W.iconst 1 d3_99 rfl ?_
      refine W.iadd d3_100 ?_
      refine W.aloadN d3_101 rfl rfl ?_
      refine W.getfield 0 d3_102 (hw _ (wd 10 rfl)) rfl rfl ?_
      refine W.icmp_ne d3_105 (fun h105 => ?_) (fun h => False.elim (by revert h; decide))
      refine W.iload d3_112 rfl ?_
      refine W.iconst 1 d3_114 rfl ?_
      refine W.iadd d3_115 ?_
      refine W.istore d3_116 rfl ?_
      refine W.iinc 1 d3_118 rfl rfl ?_
      show WB _ l Z n m3 121 [(.val (.ref 0)), (.val (.ref 1)), (.val (.ref 2)), (.val (.long (((((((((((((((((0 : Int64) <<< ((1 : Int32) &&& 0x3f).toInt64) ||| ((XT.ushrL (Int64.ofNat t1.1) (3 - 1)) &&& 1)) <<< ((1 : Int32) &&& 0x3f).toInt64) ||| ((XT.ushrL (Int64.ofNat t2.1) (3 - 1)) &&& 1)) <<< ((1 : Int32) &&& 0x3f).toInt64) ||| ((XT.ushrL (Int64.ofNat t3.1) (3 - 1)) &&& 1)) <<< ((1 : Int32) &&& 0x3f).toInt64) ||| ((XT.ushrL (Int64.ofNat t1.1) ((3 - 1) + (-1))) &&& 1)) <<< ((1 : Int32) &&& 0x3f).toInt64) ||| ((XT.ushrL (Int64.ofNat t2.1) ((3 - 1) + (-1))) &&& 1)) <<< ((1 : Int32) &&& 0x3f).toInt64) ||| ((XT.ushrL (Int64.ofNat t3.1) ((3 - 1) + (-1))) &&& 1)) <<< ((1 : Int32) &&& 0x3f).toInt64) ||| ((XT.ushrL (Int64.ofNat t3.1) (((3 - 1) + (-1)) + (-1))) &&& 1)) <<< ((1 : Int32) &&& 0x3f).toInt64) ||| ((XT.ushrL (Int64.ofNat t1.1) (((3 - 1) + (-1)) + (-1))) &&& 1)))), .second, (.val (.int ((((((((0 + 1) + 1) + 1) + 1) + 1) + 1) + 1) + 1))), (.val (.int (0))), (.val (.int (2))), (.val (.int (((3 - 1) + (-1)) + (-1)))), (.val (.int ((0 + (((XT.ushrL (Int64.ofNat t3.1) (((3 - 1) + (-1)) + (-1))) &&& 1).toInt32)) + (((XT.ushrL (Int64.ofNat t1.1) (((3 - 1) + (-1)) + (-1))) &&& 1).toInt32)))), (.val (.int (0 + 1))), (.val (.int ((0 + 1) + 1))), (.val (.long ((XT.ushrL (Int64.ofNat t1.1) (((3 - 1) + (-1)) + (-1))) &&& 1))), .second] [] [.inl ("com/example/reshelve/reshelve/service/sort/ZCurve", [(("com/example/reshelve/reshelve/service/sort/ZCurve", "dimensions", "I"), (.int (3))), (("com/example/reshelve/reshelve/service/sort/ZCurve", "bits", "I"), (.int (3))), (("com/example/reshelve/reshelve/service/sort/ZCurve", "words", "I"), (.int (1)))]), .inr (.long, [(.long (Int64.ofNat t1.1)), (.long (Int64.ofNat t2.1)), (.long (Int64.ofNat t3.1))]), .inr (.long, [(.long (0))])] _ _ _
      refine W.goto d3_121 ?_
      show W l Z n m3 41 [(.val (.ref 0)), (.val (.ref 1)), (.val (.ref 2)), (.val (.long (((((((((((((((((0 : Int64) <<< ((1 : Int32) &&& 0x3f).toInt64) ||| ((XT.ushrL (Int64.ofNat t1.1) (3 - 1)) &&& 1)) <<< ((1 : Int32) &&& 0x3f).toInt64) ||| ((XT.ushrL (Int64.ofNat t2.1) (3 - 1)) &&& 1)) <<< ((1 : Int32) &&& 0x3f).toInt64) ||| ((XT.ushrL (Int64.ofNat t3.1) (3 - 1)) &&& 1)) <<< ((1 : Int32) &&& 0x3f).toInt64) ||| ((XT.ushrL (Int64.ofNat t1.1) ((3 - 1) + (-1))) &&& 1)) <<< ((1 : Int32) &&& 0x3f).toInt64) ||| ((XT.ushrL (Int64.ofNat t2.1) ((3 - 1) + (-1))) &&& 1)) <<< ((1 : Int32) &&& 0x3f).toInt64) ||| ((XT.ushrL (Int64.ofNat t3.1) ((3 - 1) + (-1))) &&& 1)) <<< ((1 : Int32) &&& 0x3f).toInt64) ||| ((XT.ushrL (Int64.ofNat t3.1) (((3 - 1) + (-1)) + (-1))) &&& 1)) <<< ((1 : Int32) &&& 0x3f).toInt64) ||| ((XT.ushrL (Int64.ofNat t1.1) (((3 - 1) + (-1)) + (-1))) &&& 1)))), .second, (.val (.int ((((((((0 + 1) + 1) + 1) + 1) + 1) + 1) + 1) + 1))), (.val (.int (0))), (.val (.int (2))), (.val (.int (((3 - 1) + (-1)) + (-1)))), (.val (.int ((0 + (((XT.ushrL (Int64.ofNat t3.1) (((3 - 1) + (-1)) + (-1))) &&& 1).toInt32)) + (((XT.ushrL (Int64.ofNat t1.1) (((3 - 1) + (-1)) + (-1))) &&& 1).toInt32)))), (.val (.int (0 + 1))), (.val (.int ((0 + 1) + 1))), (.val (.long ((XT.ushrL (Int64.ofNat t1.1) (((3 - 1) + (-1)) + (-1))) &&& 1))), .second] [] [.inl ("com/example/reshelve/reshelve/service/sort/ZCurve", [(("com/example/reshelve/reshelve/service/sort/ZCurve", "dimensions", "I"), (.int (3))), (("com/example/reshelve/reshelve/service/sort/ZCurve", "bits", "I"), (.int (3))), (("com/example/reshelve/reshelve/service/sort/ZCurve", "words", "I"), (.int (1)))]), .inr (.long, [(.long (Int64.ofNat t1.1)), (.long (Int64.ofNat t2.1)), (.long (Int64.ofNat t3.1))]), .inr (.long, [(.long (0))])] _ _ _
      refine W.iload d3_41 rfl ?_
      refine W.aloadN d3_43 rfl rfl ?_
      refine W.getfield 0 d3_44 (hw _ (wd 10 rfl)) rfl rfl ?_
      refine W.icmp_ge d3_47 (fun h => False.elim (by revert h; decide)) (fun h47 => ?_)
      refine W.aloadN d3_50 rfl rfl ?_
      refine W.iload d3_51 rfl ?_
      refine W.laload (i := 1) d3_53 rfl ⟨by decide, by decide⟩ rfl ?_
      refine W.iload d3_54 rfl ?_
      refine W.lushr d3_56 ?_
      refine W.lconst 1 d3_57 rfl ?_
      refine W.land d3_58 ?_
      refine W.lstore d3_59 rfl ?_
      refine W.lloadN d3_61 rfl ?_
      refine W.iconst 1 d3_62 rfl ?_
      refine W.lshl d3_63 ?_
      refine W.lload d3_64 rfl ?_
      refine W.lor d3_66 ?_
      refine W.lstoreN d3_67 rfl ?_
      refine W.iinc 1 d3_68 rfl rfl ?_
      refine W.iload d3_71 rfl ?_
      refine W.bipush 64 d3_73 rfl ?_
      refine W.icmp_ne d3_75 (fun h75 => ?_) (fun h => False.elim (by revert h; decide))
      refine W.iload d3_89 rfl ?_
      refine W.lload d3_91 rfl ?_
      refine W.l2i d3_93 ?_
      refine W.iadd d3_94 ?_
      refine W.istore d3_95 rfl ?_
      show WB _ l Z n m3 97 [(.val (.ref 0)), (.val (.ref 1)), (.val (.ref 2)), (.val (.long (((((((((((((((((((0 : Int64) <<< ((1 : Int32) &&& 0x3f).toInt64) ||| ((XT.ushrL (Int64.ofNat t1.1) (3 - 1)) &&& 1)) <<< ((1 : Int32) &&& 0x3f).toInt64) ||| ((XT.ushrL (Int64.ofNat t2.1) (3 - 1)) &&& 1)) <<< ((1 : Int32) &&& 0x3f).toInt64) ||| ((XT.ushrL (Int64.ofNat t3.1) (3 - 1)) &&& 1)) <<< ((1 : Int32) &&& 0x3f).toInt64) ||| ((XT.ushrL (Int64.ofNat t1.1) ((3 - 1) + (-1))) &&& 1)) <<< ((1 : Int32) &&& 0x3f).toInt64) ||| ((XT.ushrL (Int64.ofNat t2.1) ((3 - 1) + (-1))) &&& 1)) <<< ((1 : Int32) &&& 0x3f).toInt64) ||| ((XT.ushrL (Int64.ofNat t3.1) ((3 - 1) + (-1))) &&& 1)) <<< ((1 : Int32) &&& 0x3f).toInt64) ||| ((XT.ushrL (Int64.ofNat t3.1) (((3 - 1) + (-1)) + (-1))) &&& 1)) <<< ((1 : Int32) &&& 0x3f).toInt64) ||| ((XT.ushrL (Int64.ofNat t1.1) (((3 - 1) + (-1)) + (-1))) &&& 1)) <<< ((1 : Int32) &&& 0x3f).toInt64) ||| ((XT.ushrL (Int64.ofNat t2.1) (((3 - 1) + (-1)) + (-1))) &&& 1)))), .second, (.val (.int (((((((((0 + 1) + 1) + 1) + 1) + 1) + 1) + 1) + 1) + 1))), (.val (.int (0))), (.val (.int (2))), (.val (.int (((3 - 1) + (-1)) + (-1)))), (.val (.int (((0 + (((XT.ushrL (Int64.ofNat t3.1) (((3 - 1) + (-1)) + (-1))) &&& 1).toInt32)) + (((XT.ushrL (Int64.ofNat t1.1) (((3 - 1) + (-1)) + (-1))) &&& 1).toInt32)) + (((XT.ushrL (Int64.ofNat t2.1) (((3 - 1) + (-1)) + (-1))) &&& 1).toInt32)))), (.val (.int (0 + 1))), (.val (.int ((0 + 1) + 1))), (.val (.long ((XT.ushrL (Int64.ofNat t2.1) (((3 - 1) + (-1)) + (-1))) &&& 1))), .second] [] [.inl ("com/example/reshelve/reshelve/service/sort/ZCurve", [(("com/example/reshelve/reshelve/service/sort/ZCurve", "dimensions", "I"), (.int (3))), (("com/example/reshelve/reshelve/service/sort/ZCurve", "bits", "I"), (.int (3))), (("com/example/reshelve/reshelve/service/sort/ZCurve", "words", "I"), (.int (1)))]), .inr (.long, [(.long (Int64.ofNat t1.1)), (.long (Int64.ofNat t2.1)), (.long (Int64.ofNat t3.1))]), .inr (.long, [(.long (0))])] _ _ _
      refine W.iload d3_97 rfl ?_
      refine W.iconst 1 d3_99 rfl ?_
      refine W.iadd d3_100 ?_
      refine W.aloadN d3_101 rfl rfl ?_
      refine W.getfield 0 d3_102 (hw _ (wd 10 rfl)) rfl rfl ?_
      refine W.icmp_ne d3_105 (fun h105 => ?_) (fun h => False.elim (by revert h; decide))
      refine W.iload d3_112 rfl ?_
      refine W.iconst 1 d3_114 rfl ?_
      refine W.iadd d3_115 ?_
      refine W.istore d3_116 rfl ?_
      refine W.iinc 1 d3_118 rfl rfl ?_
      refine W.goto d3_121 ?_
      show W l Z n m3 41 [(.val (.ref 0)), (.val (.ref 1)), (.val (.ref 2)), (.val (.long (((((((((((((((((((0 : Int64) <<< ((1 : Int32) &&& 0x3f).toInt64) ||| ((XT.ushrL (Int64.ofNat t1.1) (3 - 1)) &&& 1)) <<< ((1 : Int32) &&& 0x3f).toInt64) ||| ((XT.ushrL (Int64.ofNat t2.1) (3 - 1)) &&& 1)) <<< ((1 : Int32) &&& 0x3f).toInt64) ||| ((XT.ushrL (Int64.ofNat t3.1) (3 - 1)) &&& 1)) <<< ((1 : Int32) &&& 0x3f).toInt64) ||| ((XT.ushrL (Int64.ofNat t1.1) ((3 - 1) + (-1))) &&& 1)) <<< ((1 : Int32) &&& 0x3f).toInt64) ||| ((XT.ushrL (Int64.ofNat t2.1) ((3 - 1) + (-1))) &&& 1)) <<< ((1 : Int32) &&& 0x3f).toInt64) ||| ((XT.ushrL (Int64.ofNat t3.1) ((3 - 1) + (-1))) &&& 1)) <<< ((1 : Int32) &&& 0x3f).toInt64) ||| ((XT.ushrL (Int64.ofNat t3.1) (((3 - 1) + (-1)) + (-1))) &&& 1)) <<< ((1 : Int32) &&& 0x3f).toInt64) ||| ((XT.ushrL (Int64.ofNat t1.1) (((3 - 1) + (-1)) + (-1))) &&& 1)) <<< ((1 : Int32) &&& 0x3f).toInt64) ||| ((XT.ushrL (Int64.ofNat t2.1) (((3 - 1) + (-1)) + (-1))) &&& 1)))), .second, (.val (.int (((((((((0 + 1) + 1) + 1) + 1) + 1) + 1) + 1) + 1) + 1))), (.val (.int (0))), (.val (.int (2))), (.val (.int (((3 - 1) + (-1)) + (-1)))), (.val (.int (((0 + (((XT.ushrL (Int64.ofNat t3.1) (((3 - 1) + (-1)) + (-1))) &&& 1).toInt32)) + (((XT.ushrL (Int64.ofNat t1.1) (((3 - 1) + (-1)) + (-1))) &&& 1).toInt32)) + (((XT.ushrL (Int64.ofNat t2.1) (((3 - 1) + (-1)) + (-1))) &&& 1).toInt32)))), (.val (.int ((0 + 1) + 1))), (.val (.int (((0 + 1) + 1) + 1))), (.val (.long ((XT.ushrL (Int64.ofNat t2.1) (((3 - 1) + (-1)) + (-1))) &&& 1))), .second] [] [.inl ("com/example/reshelve/reshelve/service/sort/ZCurve", [(("com/example/reshelve/reshelve/service/sort/ZCurve", "dimensions", "I"), (.int (3))), (("com/example/reshelve/reshelve/service/sort/ZCurve", "bits", "I"), (.int (3))), (("com/example/reshelve/reshelve/service/sort/ZCurve", "words", "I"), (.int (1)))]), .inr (.long, [(.long (Int64.ofNat t1.1)), (.long (Int64.ofNat t2.1)), (.long (Int64.ofNat t3.1))]), .inr (.long, [(.long (0))])] _ _ _
      refine W.iload d3_41 rfl ?_
      refine W.aloadN d3_43 rfl rfl ?_
      refine W.getfield 0 d3_44 (hw _ (wd 10 rfl)) rfl rfl ?_
      refine W.icmp_ge d3_47 (fun h47 => ?_) (fun h => False.elim (by revert h; decide))
      refine W.iload d3_124 rfl ?_
      refine W.iload d3_126 rfl ?_
      refine W.iadd d3_128 ?_
      refine W.istore d3_129 rfl ?_
      refine W.iload d3_131 rfl ?_
      refine W.aloadN d3_133 rfl rfl ?_
      refine W.getfield 0 d3_134 (hw _ (wd 10 rfl)) rfl rfl ?_
      refine W.icmp_lt d3_137 (fun h137 => ?_) (fun h137 => ?_)
      · refine W.iinc (-1) d3_149 rfl rfl ?_
        show WB _ l Z n m3 152 [(.val (.ref 0)), (.val (.ref 1)), (.val (.ref 2)), (.val (.long (((((((((((((((((((0 : Int64) <<< ((1 : Int32) &&& 0x3f).toInt64) ||| ((XT.ushrL (Int64.ofNat t1.1) (3 - 1)) &&& 1)) <<< ((1 : Int32) &&& 0x3f).toInt64) ||| ((XT.ushrL (Int64.ofNat t2.1) (3 - 1)) &&& 1)) <<< ((1 : Int32) &&& 0x3f).toInt64) ||| ((XT.ushrL (Int64.ofNat t3.1) (3 - 1)) &&& 1)) <<< ((1 : Int32) &&& 0x3f).toInt64) ||| ((XT.ushrL (Int64.ofNat t1.1) ((3 - 1) + (-1))) &&& 1)) <<< ((1 : Int32) &&& 0x3f).toInt64) ||| ((XT.ushrL (Int64.ofNat t2.1) ((3 - 1) + (-1))) &&& 1)) <<< ((1 : Int32) &&& 0x3f).toInt64) ||| ((XT.ushrL (Int64.ofNat t3.1) ((3 - 1) + (-1))) &&& 1)) <<< ((1 : Int32) &&& 0x3f).toInt64) ||| ((XT.ushrL (Int64.ofNat t3.1) (((3 - 1) + (-1)) + (-1))) &&& 1)) <<< ((1 : Int32) &&& 0x3f).toInt64) ||| ((XT.ushrL (Int64.ofNat t1.1) (((3 - 1) + (-1)) + (-1))) &&& 1)) <<< ((1 : Int32) &&& 0x3f).toInt64) ||| ((XT.ushrL (Int64.ofNat t2.1) (((3 - 1) + (-1)) + (-1))) &&& 1)))), .second, (.val (.int (((((((((0 + 1) + 1) + 1) + 1) + 1) + 1) + 1) + 1) + 1))), (.val (.int (0))), (.val (.int (2 + (((0 + (((XT.ushrL (Int64.ofNat t3.1) (((3 - 1) + (-1)) + (-1))) &&& 1).toInt32)) + (((XT.ushrL (Int64.ofNat t1.1) (((3 - 1) + (-1)) + (-1))) &&& 1).toInt32)) + (((XT.ushrL (Int64.ofNat t2.1) (((3 - 1) + (-1)) + (-1))) &&& 1).toInt32))))), (.val (.int ((((3 - 1) + (-1)) + (-1)) + (-1)))), (.val (.int (((0 + (((XT.ushrL (Int64.ofNat t3.1) (((3 - 1) + (-1)) + (-1))) &&& 1).toInt32)) + (((XT.ushrL (Int64.ofNat t1.1) (((3 - 1) + (-1)) + (-1))) &&& 1).toInt32)) + (((XT.ushrL (Int64.ofNat t2.1) (((3 - 1) + (-1)) + (-1))) &&& 1).toInt32)))), (.val (.int ((0 + 1) + 1))), (.val (.int (((0 + 1) + 1) + 1))), (.val (.long ((XT.ushrL (Int64.ofNat t2.1) (((3 - 1) + (-1)) + (-1))) &&& 1))), .second] [] [.inl ("com/example/reshelve/reshelve/service/sort/ZCurve", [(("com/example/reshelve/reshelve/service/sort/ZCurve", "dimensions", "I"), (.int (3))), (("com/example/reshelve/reshelve/service/sort/ZCurve", "bits", "I"), (.int (3))), (("com/example/reshelve/reshelve/service/sort/ZCurve", "words", "I"), (.int (1)))]), .inr (.long, [(.long (Int64.ofNat t1.1)), (.long (Int64.ofNat t2.1)), (.long (Int64.ofNat t3.1))]), .inr (.long, [(.long (0))])] _ _ _
        refine W.goto d3_152 ?_
        refine W.iload d3_26 rfl ?_
        refine W.if_lt d3_28 (fun h28 => ?_) (fun h => False.elim (by revert h; decide))
        refine W.iload d3_155 rfl ?_
        refine W.if_le d3_157 (fun h => False.elim (by revert h; decide)) (fun h157 => ?_)
        refine W.aloadN d3_160 rfl rfl ?_
        refine W.iload d3_161 rfl ?_
        refine W.lloadN d3_163 rfl ?_
        refine W.bipush 64 d3_164 rfl ?_
        refine W.iload d3_166 rfl ?_
        refine W.isub d3_168 ?_
        refine W.lshl d3_169 ?_
        refine W.lastore (i := 0) d3_170 rfl ⟨by decide, by decide⟩ (by simp) ?_
        refine W.aloadN d3_171 rfl rfl ?_
        exact W.areturn d3_172 rfl rfl rfl (by decide) (by decide) (⟨rfl, by rw [own_k4 t1 t2 t3 q0 q1] <;> rfl⟩)
      · refine W.iload d3_140 rfl ?_
        refine W.aloadN d3_142 rfl rfl ?_
        refine W.getfield 0 d3_143 (hw _ (wd 10 rfl)) rfl rfl ?_
        refine W.isub d3_146 ?_
        refine W.istore d3_147 rfl ?_
        show WB _ l Z n m3 149 [(.val (.ref 0)), (.val (.ref 1)), (.val (.ref 2)), (.val (.long (((((((((((((((((((0 : Int64) <<< ((1 : Int32) &&& 0x3f).toInt64) ||| ((XT.ushrL (Int64.ofNat t1.1) (3 - 1)) &&& 1)) <<< ((1 : Int32) &&& 0x3f).toInt64) ||| ((XT.ushrL (Int64.ofNat t2.1) (3 - 1)) &&& 1)) <<< ((1 : Int32) &&& 0x3f).toInt64) ||| ((XT.ushrL (Int64.ofNat t3.1) (3 - 1)) &&& 1)) <<< ((1 : Int32) &&& 0x3f).toInt64) ||| ((XT.ushrL (Int64.ofNat t1.1) ((3 - 1) + (-1))) &&& 1)) <<< ((1 : Int32) &&& 0x3f).toInt64) ||| ((XT.ushrL (Int64.ofNat t2.1) ((3 - 1) + (-1))) &&& 1)) <<< ((1 : Int32) &&& 0x3f).toInt64) ||| ((XT.ushrL (Int64.ofNat t3.1) ((3 - 1) + (-1))) &&& 1)) <<< ((1 : Int32) &&& 0x3f).toInt64) ||| ((XT.ushrL (Int64.ofNat t3.1) (((3 - 1) + (-1)) + (-1))) &&& 1)) <<< ((1 : Int32) &&& 0x3f).toInt64) ||| ((XT.ushrL (Int64.ofNat t1.1) (((3 - 1) + (-1)) + (-1))) &&& 1)) <<< ((1 : Int32) &&& 0x3f).toInt64) ||| ((XT.ushrL (Int64.ofNat t2.1) (((3 - 1) + (-1)) + (-1))) &&& 1)))), .second, (.val (.int (((((((((0 + 1) + 1) + 1) + 1) + 1) + 1) + 1) + 1) + 1))), (.val (.int (0))), (.val (.int ((2 + (((0 + (((XT.ushrL (Int64.ofNat t3.1) (((3 - 1) + (-1)) + (-1))) &&& 1).toInt32)) + (((XT.ushrL (Int64.ofNat t1.1) (((3 - 1) + (-1)) + (-1))) &&& 1).toInt32)) + (((XT.ushrL (Int64.ofNat t2.1) (((3 - 1) + (-1)) + (-1))) &&& 1).toInt32))) - 3))), (.val (.int (((3 - 1) + (-1)) + (-1)))), (.val (.int (((0 + (((XT.ushrL (Int64.ofNat t3.1) (((3 - 1) + (-1)) + (-1))) &&& 1).toInt32)) + (((XT.ushrL (Int64.ofNat t1.1) (((3 - 1) + (-1)) + (-1))) &&& 1).toInt32)) + (((XT.ushrL (Int64.ofNat t2.1) (((3 - 1) + (-1)) + (-1))) &&& 1).toInt32)))), (.val (.int ((0 + 1) + 1))), (.val (.int (((0 + 1) + 1) + 1))), (.val (.long ((XT.ushrL (Int64.ofNat t2.1) (((3 - 1) + (-1)) + (-1))) &&& 1))), .second] [] [.inl ("com/example/reshelve/reshelve/service/sort/ZCurve", [(("com/example/reshelve/reshelve/service/sort/ZCurve", "dimensions", "I"), (.int (3))), (("com/example/reshelve/reshelve/service/sort/ZCurve", "bits", "I"), (.int (3))), (("com/example/reshelve/reshelve/service/sort/ZCurve", "words", "I"), (.int (1)))]), .inr (.long, [(.long (Int64.ofNat t1.1)), (.long (Int64.ofNat t2.1)), (.long (Int64.ofNat t3.1))]), .inr (.long, [(.long (0))])] _ _ _
        refine W.iinc (-1) d3_149 rfl rfl ?_
        refine W.goto d3_152 ?_
        refine W.iload d3_26 rfl ?_
        refine W.if_lt d3_28 (fun h28 => ?_) (fun h => False.elim (by revert h; decide))
        refine W.iload d3_155 rfl ?_
        refine W.if_le d3_157 (fun h => False.elim (by revert h; decide)) (fun h157 => ?_)
        refine W.aloadN d3_160 rfl rfl ?_
        refine W.iload d3_161 rfl ?_
        refine W.lloadN d3_163 rfl ?_
        refine W.bipush 64 d3_164 rfl ?_
        refine W.iload d3_166 rfl ?_
        refine W.isub d3_168 ?_
        refine W.lshl d3_169 ?_
        refine W.lastore (i := 0) d3_170 rfl ⟨by decide, by decide⟩ (by simp) ?_
        refine W.aloadN d3_171 rfl rfl ?_
        exact W.areturn d3_172 rfl rfl rfl (by decide) (by decide) (⟨rfl, by rw [own_k4 t1 t2 t3 q0 q1] <;> rfl⟩)
    · rw [q1]
      refine W.istore d3_129 rfl ?_
      show WB _ l Z n m3 131 [(.val (.ref 0)), (.val (.ref 1)), (.val (.ref 2)), (.val (.long (((((((((((((0 : Int64) <<< ((1 : Int32) &&& 0x3f).toInt64) ||| ((XT.ushrL (Int64.ofNat t1.1) (3 - 1)) &&& 1)) <<< ((1 : Int32) &&& 0x3f).toInt64) ||| ((XT.ushrL (Int64.ofNat t2.1) (3 - 1)) &&& 1)) <<< ((1 : Int32) &&& 0x3f).toInt64) ||| ((XT.ushrL (Int64.ofNat t3.1) (3 - 1)) &&& 1)) <<< ((1 : Int32) &&& 0x3f).toInt64) ||| ((XT.ushrL (Int64.ofNat t1.1) ((3 - 1) + (-1))) &&& 1)) <<< ((1 : Int32) &&& 0x3f).toInt64) ||| ((XT.ushrL (Int64.ofNat t2.1) ((3 - 1) + (-1))) &&& 1)) <<< ((1 : Int32) &&& 0x3f).toInt64) ||| ((XT.ushrL (Int64.ofNat t3.1) ((3 - 1) + (-1))) &&& 1)))), .second, (.val (.int ((((((0 + 1) + 1) + 1) + 1) + 1) + 1))), (.val (.int (0))), (.val (.int (3))), (.val (.int ((3 - 1) + (-1)))), (.val (.int (((0 + (((XT.ushrL (Int64.ofNat t1.1) ((3 - 1) + (-1))) &&& 1).toInt32)) + (((XT.ushrL (Int64.ofNat t2.1) ((3 - 1) + (-1))) &&& 1).toInt32)) + (((XT.ushrL (Int64.ofNat t3.1) ((3 - 1) + (-1))) &&& 1).toInt32)))), (.val (.int (0))), (.val (.int (((0 + 1) + 1) + 1))), (.val (.long ((XT.ushrL (Int64.ofNat t3.1) ((3 - 1) + (-1))) &&& 1))), .second] [] [.inl ("com/example/reshelve/reshelve/service/sort/ZCurve", [(("com/example/reshelve/reshelve/service/sort/ZCurve", "dimensions", "I"), (.int (3))), (("com/example/reshelve/reshelve/service/sort/ZCurve", "bits", "I"), (.int (3))), (("com/example/reshelve/reshelve/service/sort/ZCurve", "words", "I"), (.int (1)))]), .inr (.long, [(.long (Int64.ofNat t1.1)), (.long (Int64.ofNat t2.1)), (.long (Int64.ofNat t3.1))]), .inr (.long, [(.long (0))])] _ _ _
      refine W.iload d3_131 rfl ?_
      refine W.aloadN d3_133 rfl rfl ?_
      refine W.getfield 0 d3_134 (hw _ (wd 10 rfl)) rfl rfl ?_
      refine W.icmp_lt d3_137 (fun h => False.elim (by revert h; decide)) (fun h137 => ?_)
      refine W.iload d3_140 rfl ?_
      refine W.aloadN d3_142 rfl rfl ?_
      refine W.getfield 0 d3_143 (hw _ (wd 10 rfl)) rfl rfl ?_
      refine W.isub d3_146 ?_
      refine W.istore d3_147 rfl ?_
      refine W.iinc (-1) d3_149 rfl rfl ?_
      refine W.goto d3_152 ?_
      refine W.iload d3_26 rfl ?_
      refine W.if_lt d3_28 (fun h => False.elim (by revert h; decide)) (fun h28 => ?_)
      refine W.iconst 0 d3_31 rfl ?_
      refine W.istore d3_32 rfl ?_
      refine W.iload d3_34 rfl ?_
      refine W.istore d3_36 rfl ?_
      show WB _ l Z n m3 38 [(.val (.ref 0)), (.val (.ref 1)), (.val (.ref 2)), (.val (.long (((((((((((((0 : Int64) <<< ((1 : Int32) &&& 0x3f).toInt64) ||| ((XT.ushrL (Int64.ofNat t1.1) (3 - 1)) &&& 1)) <<< ((1 : Int32) &&& 0x3f).toInt64) ||| ((XT.ushrL (Int64.ofNat t2.1) (3 - 1)) &&& 1)) <<< ((1 : Int32) &&& 0x3f).toInt64) ||| ((XT.ushrL (Int64.ofNat t3.1) (3 - 1)) &&& 1)) <<< ((1 : Int32) &&& 0x3f).toInt64) ||| ((XT.ushrL (Int64.ofNat t1.1) ((3 - 1) + (-1))) &&& 1)) <<< ((1 : Int32) &&& 0x3f).toInt64) ||| ((XT.ushrL (Int64.ofNat t2.1) ((3 - 1) + (-1))) &&& 1)) <<< ((1 : Int32) &&& 0x3f).toInt64) ||| ((XT.ushrL (Int64.ofNat t3.1) ((3 - 1) + (-1))) &&& 1)))), .second, (.val (.int ((((((0 + 1) + 1) + 1) + 1) + 1) + 1))), (.val (.int (0))), (.val (.int (3 - 3))), (.val (.int (((3 - 1) + (-1)) + (-1)))), (.val (.int (0))), (.val (.int (3 - 3))), (.val (.int (((0 + 1) + 1) + 1))), (.val (.long ((XT.ushrL (Int64.ofNat t3.1) ((3 - 1) + (-1))) &&& 1))), .second] [] [.inl ("com/example/reshelve/reshelve/service/sort/ZCurve", [(("com/example/reshelve/reshelve/service/sort/ZCurve", "dimensions", "I"), (.int (3))), (("com/example/reshelve/reshelve/service/sort/ZCurve", "bits", "I"), (.int (3))), (("com/example/reshelve/reshelve/service/sort/ZCurve", "words", "I"), (.int (1)))]), .inr (.long, [(.long (Int64.ofNat t1.1)), (.long (Int64.ofNat t2.1)), (.long (Int64.ofNat t3.1))]), .inr (.long, [(.long (0))])] _ _ _
      refine W.iconst 0 d3_38 rfl ?_
      refine W.istore d3_39 rfl ?_
      show W l Z n m3 41 [(.val (.ref 0)), (.val (.ref 1)), (.val (.ref 2)), (.val (.long (((((((((((((0 : Int64) <<< ((1 : Int32) &&& 0x3f).toInt64) ||| ((XT.ushrL (Int64.ofNat t1.1) (3 - 1)) &&& 1)) <<< ((1 : Int32) &&& 0x3f).toInt64) ||| ((XT.ushrL (Int64.ofNat t2.1) (3 - 1)) &&& 1)) <<< ((1 : Int32) &&& 0x3f).toInt64) ||| ((XT.ushrL (Int64.ofNat t3.1) (3 - 1)) &&& 1)) <<< ((1 : Int32) &&& 0x3f).toInt64) ||| ((XT.ushrL (Int64.ofNat t1.1) ((3 - 1) + (-1))) &&& 1)) <<< ((1 : Int32) &&& 0x3f).toInt64) ||| ((XT.ushrL (Int64.ofNat t2.1) ((3 - 1) + (-1))) &&& 1)) <<< ((1 : Int32) &&& 0x3f).toInt64) ||| ((XT.ushrL (Int64.ofNat t3.1) ((3 - 1) + (-1))) &&& 1)))), .second, (.val (.int ((((((0 + 1) + 1) + 1) + 1) + 1) + 1))), (.val (.int (0))), (.val (.int (3 - 3))), (.val (.int (((3 - 1) + (-1)) + (-1)))), (.val (.int (0))), (.val (.int (3 - 3))), (.val (.int (0))), (.val (.long ((XT.ushrL (Int64.ofNat t3.1) ((3 - 1) + (-1))) &&& 1))), .second] [] [.inl ("com/example/reshelve/reshelve/service/sort/ZCurve", [(("com/example/reshelve/reshelve/service/sort/ZCurve", "dimensions", "I"), (.int (3))), (("com/example/reshelve/reshelve/service/sort/ZCurve", "bits", "I"), (.int (3))), (("com/example/reshelve/reshelve/service/sort/ZCurve", "words", "I"), (.int (1)))]), .inr (.long, [(.long (Int64.ofNat t1.1)), (.long (Int64.ofNat t2.1)), (.long (Int64.ofNat t3.1))]), .inr (.long, [(.long (0))])] _ _ _
      refine W.iload d3_41 rfl ?_
      refine W.aloadN d3_43 rfl rfl ?_
      refine W.getfield 0 d3_44 (hw _ (wd 10 rfl)) rfl rfl ?_
      refine W.icmp_ge d3_47 (fun h => False.elim (by revert h; decide)) (fun h47 => ?_)
      refine W.aloadN d3_50 rfl rfl ?_
      refine W.iload d3_51 rfl ?_
      refine W.laload (i := 0) d3_53 rfl ⟨by decide, by decide⟩ rfl ?_
      refine W.iload d3_54 rfl ?_
      refine W.lushr d3_56 ?_
      refine W.lconst 1 d3_57 rfl ?_
      refine W.land d3_58 ?_
      refine W.lstore d3_59 rfl ?_
      refine W.lloadN d3_61 rfl ?_
      refine W.iconst 1 d3_62 rfl ?_
      refine W.lshl d3_63 ?_
      refine W.lload d3_64 rfl ?_
      refine W.lor d3_66 ?_
      refine W.lstoreN d3_67 rfl ?_
      refine W.iinc 1 d3_68 rfl rfl ?_
      show WB _ l Z n m3 71 [(.val (.ref 0)), (.val (.ref 1)), (.val (.ref 2)), (.val (.long (((((((((((((((0 : Int64) <<< ((1 : Int32) &&& 0x3f).toInt64) ||| ((XT.ushrL (Int64.ofNat t1.1) (3 - 1)) &&& 1)) <<< ((1 : Int32) &&& 0x3f).toInt64) ||| ((XT.ushrL (Int64.ofNat t2.1) (3 - 1)) &&& 1)) <<< ((1 : Int32) &&& 0x3f).toInt64) ||| ((XT.ushrL (Int64.ofNat t3.1) (3 - 1)) &&& 1)) <<< ((1 : Int32) &&& 0x3f).toInt64) ||| ((XT.ushrL (Int64.ofNat t1.1) ((3 - 1) + (-1))) &&& 1)) <<< ((1 : Int32) &&& 0x3f).toInt64) ||| ((XT.ushrL (Int64.ofNat t2.1) ((3 - 1) + (-1))) &&& 1)) <<< ((1 : Int32) &&& 0x3f).toInt64) ||| ((XT.ushrL (Int64.ofNat t3.1) ((3 - 1) + (-1))) &&& 1)) <<< ((1 : Int32) &&& 0x3f).toInt64) ||| ((XT.ushrL (Int64.ofNat t1.1) (((3 - 1) + (-1)) + (-1))) &&& 1)))), .second, (.val (.int (((((((0 + 1) + 1) + 1) + 1) + 1) + 1) + 1))), (.val (.int (0))), (.val (.int (3 - 3))), (.val (.int (((3 - 1) + (-1)) + (-1)))), (.val (.int (0))), (.val (.int (3 - 3))), (.val (.int (0))), (.val (.long ((XT.ushrL (Int64.ofNat t1.1) (((3 - 1) + (-1)) + (-1))) &&& 1))), .second] [] [.inl ("com/example/reshelve/reshelve/service/sort/ZCurve", [(("com/example/reshelve/reshelve/service/sort/ZCurve", "dimensions", "I"), (.int (3))), (("com/example/reshelve/reshelve/service/sort/ZCurve", "bits", "I"), (.int (3))), (("com/example/reshelve/reshelve/service/sort/ZCurve", "words", "I"), (.int (1)))]), .inr (.long, [(.long (Int64.ofNat t1.1)), (.long (Int64.ofNat t2.1)), (.long (Int64.ofNat t3.1))]), .inr (.long, [(.long (0))])] _ _ _
      refine W.iload d3_71 rfl ?_
      refine W.bipush 64 d3_73 rfl ?_
      refine W.icmp_ne d3_75 (fun h75 => ?_) (fun h => False.elim (by revert h; decide))
      refine W.iload d3_89 rfl ?_
      refine W.lload d3_91 rfl ?_
      refine W.l2i d3_93 ?_
      refine W.iadd d3_94 ?_
      refine W.istore d3_95 rfl ?_
      refine W.iload d3_97 rfl ?_
      refine W.iconst 1 d3_99 rfl ?_
      refine W.iadd d3_100 ?_
      refine W.aloadN d3_101 rfl rfl ?_
      refine W.getfield 0 d3_102 (hw _ (wd 10 rfl)) rfl rfl ?_
      refine W.icmp_ne d3_105 (fun h105 => ?_) (fun h => False.elim (by revert h; decide))
      refine W.iload d3_112 rfl ?_
      refine W.iconst 1 d3_114 rfl ?_
      refine W.iadd d3_115 ?_
      refine W.istore d3_116 rfl ?_
      refine W.iinc 1 d3_118 rfl rfl ?_
      refine W.goto d3_121 ?_
      show W l Z n m3 41 [(.val (.ref 0)), (.val (.ref 1)), (.val (.ref 2)), (.val (.long (((((((((((((((0 : Int64) <<< ((1 : Int32) &&& 0x3f).toInt64) ||| ((XT.ushrL (Int64.ofNat t1.1) (3 - 1)) &&& 1)) <<< ((1 : Int32) &&& 0x3f).toInt64) ||| ((XT.ushrL (Int64.ofNat t2.1) (3 - 1)) &&& 1)) <<< ((1 : Int32) &&& 0x3f).toInt64) ||| ((XT.ushrL (Int64.ofNat t3.1) (3 - 1)) &&& 1)) <<< ((1 : Int32) &&& 0x3f).toInt64) ||| ((XT.ushrL (Int64.ofNat t1.1) ((3 - 1) + (-1))) &&& 1)) <<< ((1 : Int32) &&& 0x3f).toInt64) ||| ((XT.ushrL (Int64.ofNat t2.1) ((3 - 1) + (-1))) &&& 1)) <<< ((1 : Int32) &&& 0x3f).toInt64) ||| ((XT.ushrL (Int64.ofNat t3.1) ((3 - 1) + (-1))) &&& 1)) <<< ((1 : Int32) &&& 0x3f).toInt64) ||| ((XT.ushrL (Int64.ofNat t1.1) (((3 - 1) + (-1)) + (-1))) &&& 1)))), .second, (.val (.int (((((((0 + 1) + 1) + 1) + 1) + 1) + 1) + 1))), (.val (.int (0))), (.val (.int (3 - 3))), (.val (.int (((3 - 1) + (-1)) + (-1)))), (.val (.int (0 + (((XT.ushrL (Int64.ofNat t1.1) (((3 - 1) + (-1)) + (-1))) &&& 1).toInt32)))), (.val (.int ((3 - 3) + 1))), (.val (.int (0 + 1))), (.val (.long ((XT.ushrL (Int64.ofNat t1.1) (((3 - 1) + (-1)) + (-1))) &&& 1))), .second] [] [.inl ("com/example/reshelve/reshelve/service/sort/ZCurve", [(("com/example/reshelve/reshelve/service/sort/ZCurve", "dimensions", "I"), (.int (3))), (("com/example/reshelve/reshelve/service/sort/ZCurve", "bits", "I"), (.int (3))), (("com/example/reshelve/reshelve/service/sort/ZCurve", "words", "I"), (.int (1)))]), .inr (.long, [(.long (Int64.ofNat t1.1)), (.long (Int64.ofNat t2.1)), (.long (Int64.ofNat t3.1))]), .inr (.long, [(.long (0))])] _ _ _
      refine W.iload d3_41 rfl ?_
      refine W.aloadN d3_43 rfl rfl ?_
      refine W.getfield 0 d3_44 (hw _ (wd 10 rfl)) rfl rfl ?_
      refine W.icmp_ge d3_47 (fun h => False.elim (by revert h; decide)) (fun h47 => ?_)
      refine W.aloadN d3_50 rfl rfl ?_
      refine W.iload d3_51 rfl ?_
      refine W.laload (i := 1) d3_53 rfl ⟨by decide, by decide⟩ rfl ?_
      refine W.iload d3_54 rfl ?_
      refine W.lushr d3_56 ?_
      refine W.lconst 1 d3_57 rfl ?_
      refine W.land d3_58 ?_
      refine W.lstore d3_59 rfl ?_
      show WB _ l Z n m3 61 [(.val (.ref 0)), (.val (.ref 1)), (.val (.ref 2)), (.val (.long (((((((((((((((0 : Int64) <<< ((1 : Int32) &&& 0x3f).toInt64) ||| ((XT.ushrL (Int64.ofNat t1.1) (3 - 1)) &&& 1)) <<< ((1 : Int32) &&& 0x3f).toInt64) ||| ((XT.ushrL (Int64.ofNat t2.1) (3 - 1)) &&& 1)) <<< ((1 : Int32) &&& 0x3f).toInt64) ||| ((XT.ushrL (Int64.ofNat t3.1) (3 - 1)) &&& 1)) <<< ((1 : Int32) &&& 0x3f).toInt64) ||| ((XT.ushrL (Int64.ofNat t1.1) ((3 - 1) + (-1))) &&& 1)) <<< ((1 : Int32) &&& 0x3f).toInt64) ||| ((XT.ushrL (Int64.ofNat t2.1) ((3 - 1) + (-1))) &&& 1)) <<< ((1 : Int32) &&& 0x3f).toInt64) ||| ((XT.ushrL (Int64.ofNat t3.1) ((3 - 1) + (-1))) &&& 1)) <<< ((1 : Int32) &&& 0x3f).toInt64) ||| ((XT.ushrL (Int64.ofNat t1.1) (((3 - 1) + (-1)) + (-1))) &&& 1)))), .second, (.val (.int (((((((0 + 1) + 1) + 1) + 1) + 1) + 1) + 1))), (.val (.int (0))), (.val (.int (3 - 3))), (.val (.int (((3 - 1) + (-1)) + (-1)))), (.val (.int (0 + (((XT.ushrL (Int64.ofNat t1.1) (((3 - 1) + (-1)) + (-1))) &&& 1).toInt32)))), (.val (.int ((3 - 3) + 1))), (.val (.int (0 + 1))), (.val (.long ((XT.ushrL (Int64.ofNat t2.1) (((3 - 1) + (-1)) + (-1))) &&& 1))), .second] [] [.inl ("com/example/reshelve/reshelve/service/sort/ZCurve", [(("com/example/reshelve/reshelve/service/sort/ZCurve", "dimensions", "I"), (.int (3))), (("com/example/reshelve/reshelve/service/sort/ZCurve", "bits", "I"), (.int (3))), (("com/example/reshelve/reshelve/service/sort/ZCurve", "words", "I"), (.int (1)))]), .inr (.long, [(.long (Int64.ofNat t1.1)), (.long (Int64.ofNat t2.1)), (.long (Int64.ofNat t3.1))]), .inr (.long, [(.long (0))])] _ _ _
      refine W.lloadN d3_61 rfl ?_
      refine W.iconst 1 d3_62 rfl ?_
      refine W.lshl d3_63 ?_
      refine W.lload d3_64 rfl ?_
      refine W.lor d3_66 ?_
      refine W.lstoreN d3_67 rfl ?_
      refine W.iinc 1 d3_68 rfl rfl ?_
      refine W.iload d3_71 rfl ?_
      refine W.bipush 64 d3_73 rfl ?_
      refine W.icmp_ne d3_75 (fun h75 => ?_) (fun h => False.elim (by revert h; decide))
      refine W.iload d3_89 rfl ?_
      refine W.lload d3_91 rfl ?_
      refine W.l2i d3_93 ?_
      refine W.iadd d3_94 ?_
      refine W.istore d3_95 rfl ?_
      refine W.iload d3_97 rfl ?_
      refine W.iconst 1 d3_99 rfl ?_
      refine W.iadd d3_100 ?_
      refine W.aloadN d3_101 rfl rfl ?_
      refine W.getfield 0 d3_102 (hw _ (wd 10 rfl)) rfl rfl ?_
      refine W.icmp_ne d3_105 (fun h105 => ?_) (fun h => False.elim (by revert h; decide))
      refine W.iload d3_112 rfl ?_
      refine W.iconst 1 d3_114 rfl ?_
      refine W.iadd d3_115 ?_
      refine W.istore d3_116 rfl ?_
      show WB _ l Z n m3 118 [(.val (.ref 0)), (.val (.ref 1)), (.val (.ref 2)), (.val (.long (((((((((((((((((0 : Int64) <<< ((1 : Int32) &&& 0x3f).toInt64) ||| ((XT.ushrL (Int64.ofNat t1.1) (3 - 1)) &&& 1)) <<< ((1 : Int32) &&& 0x3f).toInt64) ||| ((XT.ushrL (Int64.ofNat t2.1) (3 - 1)) &&& 1)) <<< ((1 : Int32) &&& 0x3f).toInt64) ||| ((XT.ushrL (Int64.ofNat t3.1) (3 - 1)) &&& 1)) <<< ((1 : Int32) &&& 0x3f).toInt64) ||| ((XT.ushrL (Int64.ofNat t1.1) ((3 - 1) + (-1))) &&& 1)) <<< ((1 : Int32) &&& 0x3f).toInt64) ||| ((XT.ushrL (Int64.ofNat t2.1) ((3 - 1) + (-1))) &&& 1)) <<< ((1 : Int32) &&& 0x3f).toInt64) ||| ((XT.ushrL (Int64.ofNat t3.1) ((3 - 1) + (-1))) &&& 1)) <<< ((1 : Int32) &&& 0x3f).toInt64) ||| ((XT.ushrL (Int64.ofNat t1.1) (((3 - 1) + (-1)) + (-1))) &&& 1)) <<< ((1 : Int32) &&& 0x3f).toInt64) ||| ((XT.ushrL (Int64.ofNat t2.1) (((3 - 1) + (-1)) + (-1))) &&& 1)))), .second, (.val (.int ((((((((0 + 1) + 1) + 1) + 1) + 1) + 1) + 1) + 1))), (.val (.int (0))), (.val (.int (3 - 3))), (.val (.int (((3 - 1) + (-1)) + (-1)))), (.val (.int ((0 + (((XT.ushrL (Int64.ofNat t1.1) (((3 - 1) + (-1)) + (-1))) &&& 1).toInt32)) + (((XT.ushrL (Int64.ofNat t2.1) (((3 - 1) + (-1)) + (-1))) &&& 1).toInt32)))), (.val (.int (((3 - 3) + 1) + 1))), (.val (.int (0 + 1))), (.val (.long ((XT.ushrL (Int64.ofNat t2.1) (((3 - 1) + (-1)) + (-1))) &&& 1))), .second] [] [.inl ("com/example/reshelve/reshelve/service/sort/ZCurve", [(("com/example/reshelve/reshelve/service/sort/ZCurve", "dimensions", "I"), (.int (3))), (("com/example/reshelve/reshelve/service/sort/ZCurve", "bits", "I"), (.int (3))), (("com/example/reshelve/reshelve/service/sort/ZCurve", "words", "I"), (.int (1)))]), .inr (.long, [(.long (Int64.ofNat t1.1)), (.long (Int64.ofNat t2.1)), (.long (Int64.ofNat t3.1))]), .inr (.long, [(.long (0))])] _ _ _
      refine W.iinc 1 d3_118 rfl rfl ?_
      refine W.goto d3_121 ?_
      show W l Z n m3 41 [(.val (.ref 0)), (.val (.ref 1)), (.val (.ref 2)), (.val (.long (((((((((((((((((0 : Int64) <<< ((1 : Int32) &&& 0x3f).toInt64) ||| ((XT.ushrL (Int64.ofNat t1.1) (3 - 1)) &&& 1)) <<< ((1 : Int32) &&& 0x3f).toInt64) ||| ((XT.ushrL (Int64.ofNat t2.1) (3 - 1)) &&& 1)) <<< ((1 : Int32) &&& 0x3f).toInt64) ||| ((XT.ushrL (Int64.ofNat t3.1) (3 - 1)) &&& 1)) <<< ((1 : Int32) &&& 0x3f).toInt64) ||| ((XT.ushrL (Int64.ofNat t1.1) ((3 - 1) + (-1))) &&& 1)) <<< ((1 : Int32) &&& 0x3f).toInt64) ||| ((XT.ushrL (Int64.ofNat t2.1) ((3 - 1) + (-1))) &&& 1)) <<< ((1 : Int32) &&& 0x3f).toInt64) ||| ((XT.ushrL (Int64.ofNat t3.1) ((3 - 1) + (-1))) &&& 1)) <<< ((1 : Int32) &&& 0x3f).toInt64) ||| ((XT.ushrL (Int64.ofNat t1.1) (((3 - 1) + (-1)) + (-1))) &&& 1)) <<< ((1 : Int32) &&& 0x3f).toInt64) ||| ((XT.ushrL (Int64.ofNat t2.1) (((3 - 1) + (-1)) + (-1))) &&& 1)))), .second, (.val (.int ((((((((0 + 1) + 1) + 1) + 1) + 1) + 1) + 1) + 1))), (.val (.int (0))), (.val (.int (3 - 3))), (.val (.int (((3 - 1) + (-1)) + (-1)))), (.val (.int ((0 + (((XT.ushrL (Int64.ofNat t1.1) (((3 - 1) + (-1)) + (-1))) &&& 1).toInt32)) + (((XT.ushrL (Int64.ofNat t2.1) (((3 - 1) + (-1)) + (-1))) &&& 1).toInt32)))), (.val (.int (((3 - 3) + 1) + 1))), (.val (.int ((0 + 1) + 1))), (.val (.long ((XT.ushrL (Int64.ofNat t2.1) (((3 - 1) + (-1)) + (-1))) &&& 1))), .second] [] [.inl ("com/example/reshelve/reshelve/service/sort/ZCurve", [(("com/example/reshelve/reshelve/service/sort/ZCurve", "dimensions", "I"), (.int (3))), (("com/example/reshelve/reshelve/service/sort/ZCurve", "bits", "I"), (.int (3))), (("com/example/reshelve/reshelve/service/sort/ZCurve", "words", "I"), (.int (1)))]), .inr (.long, [(.long (Int64.ofNat t1.1)), (.long (Int64.ofNat t2.1)), (.long (Int64.ofNat t3.1))]), .inr (.long, [(.long (0))])] _ _ _
      refine W.iload d3_41 rfl ?_
      refine W.aloadN d3_43 rfl rfl ?_
      refine W.getfield 0 d3_44 (hw _ (wd 10 rfl)) rfl rfl ?_
      refine W.icmp_ge d3_47 (fun h => False.elim (by revert h; decide)) (fun h47 => ?_)
      refine W.aloadN d3_50 rfl rfl ?_
      refine W.iload d3_51 rfl ?_
      refine W.laload (i := 2) d3_53 rfl ⟨by decide, by decide⟩ rfl ?_
      refine W.iload d3_54 rfl ?_
      refine W.lushr d3_56 ?_
      refine W.lconst 1 d3_57 rfl ?_
      refine W.land d3_58 ?_
      refine W.lstore d3_59 rfl ?_
      refine W.lloadN d3_61 rfl ?_
      refine W.iconst 1 d3_62 rfl ?_
      refine W.lshl d3_63 ?_
      refine W.lload d3_64 rfl ?_
      refine W.lor d3_66 ?_
      refine W.lstoreN d3_67 rfl ?_
      refine W.iinc 1 d3_68 rfl rfl ?_
      show WB _ l Z n m3 71 [(.val (.ref 0)), (.val (.ref 1)), (.val (.ref 2)), (.val (.long (((((((((((((((((((0 : Int64) <<< ((1 : Int32) &&& 0x3f).toInt64) ||| ((XT.ushrL (Int64.ofNat t1.1) (3 - 1)) &&& 1)) <<< ((1 : Int32) &&& 0x3f).toInt64) ||| ((XT.ushrL (Int64.ofNat t2.1) (3 - 1)) &&& 1)) <<< ((1 : Int32) &&& 0x3f).toInt64) ||| ((XT.ushrL (Int64.ofNat t3.1) (3 - 1)) &&& 1)) <<< ((1 : Int32) &&& 0x3f).toInt64) ||| ((XT.ushrL (Int64.ofNat t1.1) ((3 - 1) + (-1))) &&& 1)) <<< ((1 : Int32) &&& 0x3f).toInt64) ||| ((XT.ushrL (Int64.ofNat t2.1) ((3 - 1) + (-1))) &&& 1)) <<< ((1 : Int32) &&& 0x3f).toInt64) ||| ((XT.ushrL (Int64.ofNat t3.1) ((3 - 1) + (-1))) &&& 1)) <<< ((1 : Int32) &&& 0x3f).toInt64) ||| ((XT.ushrL (Int64.ofNat t1.1) (((3 - 1) + (-1)) + (-1))) &&& 1)) <<< ((1 : Int32) &&& 0x3f).toInt64) ||| ((XT.ushrL (Int64.ofNat t2.1) (((3 - 1) + (-1)) + (-1))) &&& 1)) <<< ((1 : Int32) &&& 0x3f).toInt64) ||| ((XT.ushrL (Int64.ofNat t3.1) (((3 - 1) + (-1)) + (-1))) &&& 1)))), .second, (.val (.int (((((((((0 + 1) + 1) + 1) + 1) + 1) + 1) + 1) + 1) + 1))), (.val (.int (0))), (.val (.int (3 - 3))), (.val (.int (((3 - 1) + (-1)) + (-1)))), (.val (.int ((0 + (((XT.ushrL (Int64.ofNat t1.1) (((3 - 1) + (-1)) + (-1))) &&& 1).toInt32)) + (((XT.ushrL (Int64.ofNat t2.1) (((3 - 1) + (-1)) + (-1))) &&& 1).toInt32)))), (.val (.int (((3 - 3) + 1) + 1))), (.val (.int ((0 + 1) + 1))), (.val (.long ((XT.ushrL (Int64.ofNat t3.1) (((3 - 1) + (-1)) + (-1))) &&& 1))), .second] [] [.inl ("com/example/reshelve/reshelve/service/sort/ZCurve", [(("com/example/reshelve/reshelve/service/sort/ZCurve", "dimensions", "I"), (.int (3))), (("com/example/reshelve/reshelve/service/sort/ZCurve", "bits", "I"), (.int (3))), (("com/example/reshelve/reshelve/service/sort/ZCurve", "words", "I"), (.int (1)))]), .inr (.long, [(.long (Int64.ofNat t1.1)), (.long (Int64.ofNat t2.1)), (.long (Int64.ofNat t3.1))]), .inr (.long, [(.long (0))])] _ _ _
      refine W.iload d3_71 rfl ?_
      refine W.bipush 64 d3_73 rfl ?_
      refine W.icmp_ne d3_75 (fun h75 => ?_) (fun h => False.elim (by revert h; decide))
      refine W.iload d3_89 rfl ?_
      refine W.lload d3_91 rfl ?_
      refine W.l2i d3_93 ?_
      refine W.iadd d3_94 ?_
      refine W.istore d3_95 rfl ?_
      refine W.iload d3_97 rfl ?_
      refine W.iconst 1 d3_99 rfl ?_
      refine W.iadd d3_100 ?_
      refine W.aloadN d3_101 rfl rfl ?_
      refine W.getfield 0 d3_102 (hw _ (wd 10 rfl)) rfl rfl ?_
      refine W.icmp_ne d3_105 (fun h => False.elim (by revert h; decide)) (fun h105 => ?_)
      refine W.iconst 0 d3_108 rfl ?_
      refine W.goto d3_109 ?_
      refine W.istore d3_116 rfl ?_
      refine W.iinc 1 d3_118 rfl rfl ?_
      refine W.goto d3_121 ?_
      show W l Z n m3 41 [(.val (.ref 0)), (.val (.ref 1)), (.val (.ref 2)), (.val (.long (((((((((((((((((((0 : Int64) <<< ((1 : Int32) &&& 0x3f).toInt64) ||| ((XT.ushrL (Int64.ofNat t1.1) (3 - 1)) &&& 1)) <<< ((1 : Int32) &&& 0x3f).toInt64) ||| ((XT.ushrL (Int64.ofNat t2.1) (3 - 1)) &&& 1)) <<< ((1 : Int32) &&& 0x3f).toInt64) ||| ((XT.ushrL (Int64.ofNat t3.1) (3 - 1)) &&& 1)) <<< ((1 : Int32) &&& 0x3f).toInt64) ||| ((XT.ushrL (Int64.ofNat t1.1) ((3 - 1) + (-1))) &&& 1)) <<< ((1 : Int32) &&& 0x3f).toInt64) ||| ((XT.ushrL (Int64.ofNat t2.1) ((3 - 1) + (-1))) &&& 1)) <<< ((1 : Int32) &&& 0x3f).toInt64) ||| ((XT.ushrL (Int64.ofNat t3.1) ((3 - 1) + (-1))) &&& 1)) <<< ((1 : Int32) &&& 0x3f).toInt64) ||| ((XT.ushrL (Int64.ofNat t1.1) (((3 - 1) + (-1)) + (-1))) &&& 1)) <<< ((1 : Int32) &&& 0x3f).toInt64) ||| ((XT.ushrL (Int64.ofNat t2.1) (((3 - 1) + (-1)) + (-1))) &&& 1)) <<< ((1 : Int32) &&& 0x3f).toInt64) ||| ((XT.ushrL (Int64.ofNat t3.1) (((3 - 1) + (-1)) + (-1))) &&& 1)))), .second, (.val (.int (((((((((0 + 1) + 1) + 1) + 1) + 1) + 1) + 1) + 1) + 1))), (.val (.int (0))), (.val (.int (3 - 3))), (.val (.int (((3 - 1) + (-1)) + (-1)))), (.val (.int (((0 + (((XT.ushrL (Int64.ofNat t1.1) (((3 - 1) + (-1)) + (-1))) &&& 1).toInt32)) + (((XT.ushrL (Int64.ofNat t2.1) (((3 - 1) + (-1)) + (-1))) &&& 1).toInt32)) + (((XT.ushrL (Int64.ofNat t3.1) (((3 - 1) + (-1)) + (-1))) &&& 1).toInt32)))), (.val (.int (0))), (.val (.int (((0 + 1) + 1) + 1))), (.val (.long ((XT.ushrL (Int64.ofNat t3.1) (((3 - 1) + (-1)) + (-1))) &&& 1))), .second] [] [.inl ("com/example/reshelve/reshelve/service/sort/ZCurve", [(("com/example/reshelve/reshelve/service/sort/ZCurve", "dimensions", "I"), (.int (3))), (("com/example/reshelve/reshelve/service/sort/ZCurve", "bits", "I"), (.int (3))), (("com/example/reshelve/reshelve/service/sort/ZCurve", "words", "I"), (.int (1)))]), .inr (.long, [(.long (Int64.ofNat t1.1)), (.long (Int64.ofNat t2.1)), (.long (Int64.ofNat t3.1))]), .inr (.long, [(.long (0))])] _ _ _
      refine W.iload d3_41 rfl ?_
      refine W.aloadN d3_43 rfl rfl ?_
      refine W.getfield 0 d3_44 (hw _ (wd 10 rfl)) rfl rfl ?_
      refine W.icmp_ge d3_47 (fun h47 => ?_) (fun h => False.elim (by revert h; decide))
      refine W.iload d3_124 rfl ?_
      refine W.iload d3_126 rfl ?_
      refine W.iadd d3_128 ?_
      refine W.istore d3_129 rfl ?_
      show WB _ l Z n m3 131 [(.val (.ref 0)), (.val (.ref 1)), (.val (.ref 2)), (.val (.long (((((((((((((((((((0 : Int64) <<< ((1 : Int32) &&& 0x3f).toInt64) ||| ((XT.ushrL (Int64.ofNat t1.1) (3 - 1)) &&& 1)) <<< ((1 : Int32) &&& 0x3f).toInt64) ||| ((XT.ushrL (Int64.ofNat t2.1) (3 - 1)) &&& 1)) <<< ((1 : Int32) &&& 0x3f).toInt64) ||| ((XT.ushrL (Int64.ofNat t3.1) (3 - 1)) &&& 1)) <<< ((1 : Int32) &&& 0x3f).toInt64) ||| ((XT.ushrL (Int64.ofNat t1.1) ((3 - 1) + (-1))) &&& 1)) <<< ((1 : Int32) &&& 0x3f).toInt64) ||| ((XT.ushrL (Int64.ofNat t2.1) ((3 - 1) + (-1))) &&& 1)) <<< ((1 : Int32) &&& 0x3f).toInt64) ||| ((XT.ushrL (Int64.ofNat t3.1) ((3 - 1) + (-1))) &&& 1)) <<< ((1 : Int32) &&& 0x3f).toInt64) ||| ((XT.ushrL (Int64.ofNat t1.1) (((3 - 1) + (-1)) + (-1))) &&& 1)) <<< ((1 : Int32) &&& 0x3f).toInt64) ||| ((XT.ushrL (Int64.ofNat t2.1) (((3 - 1) + (-1)) + (-1))) &&& 1)) <<< ((1 : Int32) &&& 0x3f).toInt64) ||| ((XT.ushrL (Int64.ofNat t3.1) (((3 - 1) + (-1)) + (-1))) &&& 1)))), .second, (.val (.int (((((((((0 + 1) + 1) + 1) + 1) + 1) + 1) + 1) + 1) + 1))), (.val (.int (0))), (.val (.int ((3 - 3) + (((0 + (((XT.ushrL (Int64.ofNat t1.1) (((3 - 1) + (-1)) + (-1))) &&& 1).toInt32)) + (((XT.ushrL (Int64.ofNat t2.1) (((3 - 1) + (-1)) + (-1))) &&& 1).toInt32)) + (((XT.ushrL (Int64.ofNat t3.1) (((3 - 1) + (-1)) + (-1))) &&& 1).toInt32))))), (.val (.int (((3 - 1) + (-1)) + (-1)))), (.val (.int (((0 + (((XT.ushrL (Int64.ofNat t1.1) (((3 - 1) + (-1)) + (-1))) &&& 1).toInt32)) + (((XT.ushrL (Int64.ofNat t2.1) (((3 - 1) + (-1)) + (-1))) &&& 1).toInt32)) + (((XT.ushrL (Int64.ofNat t3.1) (((3 - 1) + (-1)) + (-1))) &&& 1).toInt32)))), (.val (.int (0))), (.val (.int (((0 + 1) + 1) + 1))), (.val (.long ((XT.ushrL (Int64.ofNat t3.1) (((3 - 1) + (-1)) + (-1))) &&& 1))), .second] [] [.inl ("com/example/reshelve/reshelve/service/sort/ZCurve", [(("com/example/reshelve/reshelve/service/sort/ZCurve", "dimensions", "I"), (.int (3))), (("com/example/reshelve/reshelve/service/sort/ZCurve", "bits", "I"), (.int (3))), (("com/example/reshelve/reshelve/service/sort/ZCurve", "words", "I"), (.int (1)))]), .inr (.long, [(.long (Int64.ofNat t1.1)), (.long (Int64.ofNat t2.1)), (.long (Int64.ofNat t3.1))]), .inr (.long, [(.long (0))])] _ _ _
      refine W.iload d3_131 rfl ?_
      refine W.aloadN d3_133 rfl rfl ?_
      refine W.getfield 0 d3_134 (hw _ (wd 10 rfl)) rfl rfl ?_
      refine W.icmp_lt d3_137 (fun h137 => ?_) (fun h137 => ?_)
      · refine W.iinc (-1) d3_149 rfl rfl ?_
        refine W.goto d3_152 ?_
        refine W.iload d3_26 rfl ?_
        refine W.if_lt d3_28 (fun h28 => ?_) (fun h => False.elim (by revert h; decide))
        refine W.iload d3_155 rfl ?_
        refine W.if_le d3_157 (fun h => False.elim (by revert h; decide)) (fun h157 => ?_)
        refine W.aloadN d3_160 rfl rfl ?_
        refine W.iload d3_161 rfl ?_
        refine W.lloadN d3_163 rfl ?_
        refine W.bipush 64 d3_164 rfl ?_
        refine W.iload d3_166 rfl ?_
        refine W.isub d3_168 ?_
        refine W.lshl d3_169 ?_
        refine W.lastore (i := 0) d3_170 rfl ⟨by decide, by decide⟩ (by simp) ?_
        refine W.aloadN d3_171 rfl rfl ?_
        exact W.areturn d3_172 rfl rfl rfl (by decide) (by decide) (⟨rfl, by rw [own_k5 t1 t2 t3 q0 q1] <;> rfl⟩)
      · refine W.iload d3_140 rfl ?_
        refine W.aloadN d3_142 rfl rfl ?_
        refine W.getfield 0 d3_143 (hw _ (wd 10 rfl)) rfl rfl ?_
        refine W.isub d3_146 ?_
        refine W.istore d3_147 rfl ?_
        refine W.iinc (-1) d3_149 rfl rfl ?_
        refine W.goto d3_152 ?_
        refine W.iload d3_26 rfl ?_
        refine W.if_lt d3_28 (fun h28 => ?_) (fun h => False.elim (by revert h; decide))
        refine W.iload d3_155 rfl ?_
        refine W.if_le d3_157 (fun h => False.elim (by revert h; decide)) (fun h157 => ?_)
        refine W.aloadN d3_160 rfl rfl ?_
        refine W.iload d3_161 rfl ?_
        refine W.lloadN d3_163 rfl ?_
        refine W.bipush 64 d3_164 rfl ?_
        refine W.iload d3_166 rfl ?_
        refine W.isub d3_168 ?_
        refine W.lshl d3_169 ?_
        refine W.lastore (i := 0) d3_170 rfl ⟨by decide, by decide⟩ (by simp) ?_
        refine W.aloadN d3_171 rfl rfl ?_
        exact W.areturn d3_172 rfl rfl rfl (by decide) (by decide) (⟨rfl, by rw [own_k5 t1 t2 t3 q0 q1] <;> rfl⟩)
  · rw [q0]
    refine W.istore d3_129 rfl ?_
    refine W.iload d3_131 rfl ?_
    refine W.aloadN d3_133 rfl rfl ?_
    refine W.getfield 0 d3_134 (hw _ (wd 10 rfl)) rfl rfl ?_
    refine W.icmp_lt d3_137 (fun h137 => ?_) (fun h => False.elim (by revert h; decide))
    refine W.iinc (-1) d3_149 rfl rfl ?_
    refine W.goto d3_152 ?_
    refine W.iload d3_26 rfl ?_
    refine W.if_lt d3_28 (fun h => False.elim (by revert h; decide)) (fun h28 => ?_)
    refine W.iconst 0 d3_31 rfl ?_
    refine W.istore d3_32 rfl ?_
    refine W.iload d3_34 rfl ?_
    refine W.istore d3_36 rfl ?_
    show WB _ l Z n m3 38 [(.val (.ref 0)), (.val (.ref 1)), (.val (.ref 2)), (.val (.long (((((((0 : Int64) <<< ((1 : Int32) &&& 0x3f).toInt64) ||| ((XT.ushrL (Int64.ofNat t1.1) (3 - 1)) &&& 1)) <<< ((1 : Int32) &&& 0x3f).toInt64) ||| ((XT.ushrL (Int64.ofNat t2.1) (3 - 1)) &&& 1)) <<< ((1 : Int32) &&& 0x3f).toInt64) ||| ((XT.ushrL (Int64.ofNat t3.1) (3 - 1)) &&& 1)))), .second, (.val (.int (((0 + 1) + 1) + 1))), (.val (.int (0))), (.val (.int (1))), (.val (.int ((3 - 1) + (-1)))), (.val (.int (0))), (.val (.int (1))), (.val (.int (((0 + 1) + 1) + 1))), (.val (.long ((XT.ushrL (Int64.ofNat t3.1) (3 - 1)) &&& 1))), .second] [] [.inl ("com/example/reshelve/reshelve/service/sort/ZCurve", [(("com/example/reshelve/reshelve/service/sort/ZCurve", "dimensions", "I"), (.int (3))), (("com/example/reshelve/reshelve/service/sort/ZCurve", "bits", "I"), (.int (3))), (("com/example/reshelve/reshelve/service/sort/ZCurve", "words", "I"), (.int (1)))]), .inr (.long, [(.long (Int64.ofNat t1.1)), (.long (Int64.ofNat t2.1)), (.long (Int64.ofNat t3.1))]), .inr (.long, [(.long (0))])] _ _ _
    refine W.iconst 0 d3_38 rfl ?_
    refine W.istore d3_39 rfl ?_
    show W l Z n m3 41 [(.val (.ref 0)), (.val (.ref 1)), (.val (.ref 2)), (.val (.long (((((((0 : Int64) <<< ((1 : Int32) &&& 0x3f).toInt64) ||| ((XT.ushrL (Int64.ofNat t1.1) (3 - 1)) &&& 1)) <<< ((1 : Int32) &&& 0x3f).toInt64) ||| ((XT.ushrL (Int64.ofNat t2.1) (3 - 1)) &&& 1)) <<< ((1 : Int32) &&& 0x3f).toInt64) ||| ((XT.ushrL (Int64.ofNat t3.1) (3 - 1)) &&& 1)))), .second, (.val (.int (((0 + 1) + 1) + 1))), (.val (.int (0))), (.val (.int (1))), (.val (.int ((3 - 1) + (-1)))), (.val (.int (0))), (.val (.int (1))), (.val (.int (0))), (.val (.long ((XT.ushrL (Int64.ofNat t3.1) (3 - 1)) &&& 1))), .second] [] [.inl ("com/example/reshelve/reshelve/service/sort/ZCurve", [(("com/example/reshelve/reshelve/service/sort/ZCurve", "dimensions", "I"), (.int (3))), (("com/example/reshelve/reshelve/service/sort/ZCurve", "bits", "I"), (.int (3))), (("com/example/reshelve/reshelve/service/sort/ZCurve", "words", "I"), (.int (1)))]), .inr (.long, [(.long (Int64.ofNat t1.1)), (.long (Int64.ofNat t2.1)), (.long (Int64.ofNat t3.1))]), .inr (.long, [(.long (0))])] _ _ _
    refine W.iload d3_41 rfl ?_
    refine W.aloadN d3_43 rfl rfl ?_
    refine W.getfield 0 d3_44 (hw _ (wd 10 rfl)) rfl rfl ?_
    refine W.icmp_ge d3_47 (fun h => False.elim (by revert h; decide)) (fun h47 => ?_)
    refine W.aloadN d3_50 rfl rfl ?_
    refine W.iload d3_51 rfl ?_
    refine W.laload (i := 1) d3_53 rfl ⟨by decide, by decide⟩ rfl ?_
    refine W.iload d3_54 rfl ?_
    refine W.lushr d3_56 ?_
    refine W.lconst 1 d3_57 rfl ?_
    refine W.land d3_58 ?_
    refine W.lstore d3_59 rfl ?_
    refine W.lloadN d3_61 rfl ?_
    refine W.iconst 1 d3_62 rfl ?_
    refine W.lshl d3_63 ?_
    refine W.lload d3_64 rfl ?_
    refine W.lor d3_66 ?_
    refine W.lstoreN d3_67 rfl ?_
    refine W.iinc 1 d3_68 rfl rfl ?_
    show WB _ l Z n m3 71 [(.val (.ref 0)), (.val (.ref 1)), (.val (.ref 2)), (.val (.long (((((((((0 : Int64) <<< ((1 : Int32) &&& 0x3f).toInt64) ||| ((XT.ushrL (Int64.ofNat t1.1) (3 - 1)) &&& 1)) <<< ((1 : Int32) &&& 0x3f).toInt64) ||| ((XT.ushrL (Int64.ofNat t2.1) (3 - 1)) &&& 1)) <<< ((1 : Int32) &&& 0x3f).toInt64) ||| ((XT.ushrL (Int64.ofNat t3.1) (3 - 1)) &&& 1)) <<< ((1 : Int32) &&& 0x3f).toInt64) ||| ((XT.ushrL (Int64.ofNat t2.1) ((3 - 1) + (-1))) &&& 1)))), .second, (.val (.int ((((0 + 1) + 1) + 1) + 1))), (.val (.int (0))), (.val (.int (1))), (.val (.int ((3 - 1) + (-1)))), (.val (.int (0))), (.val (.int (1))), (.val (.int (0))), (.val (.long ((XT.ushrL (Int64.ofNat t2.1) ((3 - 1) + (-1))) &&& 1))), .second] [] [.inl ("com/example/reshelve/reshelve/service/sort/ZCurve", [(("com/example/reshelve/reshelve/service/sort/ZCurve", "dimensions", "I"), (.int (3))), (("com/example/reshelve/reshelve/service/sort/ZCurve", "bits", "I"), (.int (3))), (("com/example/reshelve/reshelve/service/sort/ZCurve", "words", "I"), (.int (1)))]), .inr (.long, [(.long (Int64.ofNat t1.1)), (.long (Int64.ofNat t2.1)), (.long (Int64.ofNat t3.1))]), .inr (.long, [(.long (0))])] _ _ _
    refine W.iload d3_71 rfl ?_
    refine W.bipush 64 d3_73 rfl ?_
    refine W.icmp_ne d3_75 (fun h75 => ?_) (fun h => False.elim (by revert h; decide))
    refine W.iload d3_89 rfl ?_
    refine W.lload d3_91 rfl ?_
    refine W.l2i d3_93 ?_
    refine W.iadd d3_94 ?_
    refine W.istore d3_95 rfl ?_
    refine W.iload d3_97 rfl ?_
    refine W.iconst 1 d3_99 rfl ?_
    refine W.iadd d3_100 ?_
    refine W.aloadN d3_101 rfl rfl ?_
    refine W.getfield 0 d3_102 (hw _ (wd 10 rfl)) rfl rfl ?_
    refine W.icmp_ne d3_105 (fun h105 => ?_) (fun h => False.elim (by revert h; decide))
    refine W.iload d3_112 rfl ?_
    refine W.iconst 1 d3_114 rfl ?_
    refine W.iadd d3_115 ?_
    refine W.istore d3_116 rfl ?_
    refine W.iinc 1 d3_118 rfl rfl ?_
    refine W.goto d3_121 ?_
    show W l Z n m3 41 [(.val (.ref 0)), (.val (.ref 1)), (.val (.ref 2)), (.val (.long (((((((((0 : Int64) <<< ((1 : Int32) &&& 0x3f).toInt64) ||| ((XT.ushrL (Int64.ofNat t1.1) (3 - 1)) &&& 1)) <<< ((1 : Int32) &&& 0x3f).toInt64) ||| ((XT.ushrL (Int64.ofNat t2.1) (3 - 1)) &&& 1)) <<< ((1 : Int32) &&& 0x3f).toInt64) ||| ((XT.ushrL (Int64.ofNat t3.1) (3 - 1)) &&& 1)) <<< ((1 : Int32) &&& 0x3f).toInt64) ||| ((XT.ushrL (Int64.ofNat t2.1) ((3 - 1) + (-1))) &&& 1)))), .second, (.val (.int ((((0 + 1) + 1) + 1) + 1))), (.val (.int (0))), (.val (.int (1))), (.val (.int ((3 - 1) + (-1)))), (.val (.int (0 + (((XT.ushrL (Int64.ofNat t2.1) ((3 - 1) + (-1))) &&& 1).toInt32)))), (.val (.int (1 + 1))), (.val (.int (0 + 1))), (.val (.long ((XT.ushrL (Int64.ofNat t2.1) ((3 - 1) + (-1))) &&& 1))), .second] [] [.inl ("com/example/reshelve/reshelve/service/sort/ZCurve", [(("com/example/reshelve/reshelve/service/sort/ZCurve", "dimensions", "I"), (.int (3))), (("com/example/reshelve/reshelve/service/sort/ZCurve", "bits", "I"), (.int (3))), (("com/example/reshelve/reshelve/service/sort/ZCurve", "words", "I"), (.int (1)))]), .inr (.long, [(.long (Int64.ofNat t1.1)), (.long (Int64.ofNat t2.1)), (.long (Int64.ofNat t3.1))]), .inr (.long, [(.long (0))])] _ _ _
    refine W.iload d3_41 rfl ?_
    refine W.aloadN d3_43 rfl rfl ?_
    refine W.getfield 0 d3_44 (hw _ (wd 10 rfl)) rfl rfl ?_
    refine W.icmp_ge d3_47 (fun h => False.elim (by revert h; decide)) (fun h47 => ?_)
    refine W.aloadN d3_50 rfl rfl ?_
    refine W.iload d3_51 rfl ?_
    refine W.laload (i := 2) d3_53 rfl ⟨by decide, by decide⟩ rfl ?_
    refine W.iload d3_54 rfl ?_
    refine W.lushr d3_56 ?_
    refine W.lconst 1 d3_57 rfl ?_
    refine W.land d3_58 ?_
    refine W.lstore d3_59 rfl ?_
    show WB _ l Z n m3 61 [(.val (.ref 0)), (.val (.ref 1)), (.val (.ref 2)), (.val (.long (((((((((0 : Int64) <<< ((1 : Int32) &&& 0x3f).toInt64) ||| ((XT.ushrL (Int64.ofNat t1.1) (3 - 1)) &&& 1)) <<< ((1 : Int32) &&& 0x3f).toInt64) ||| ((XT.ushrL (Int64.ofNat t2.1) (3 - 1)) &&& 1)) <<< ((1 : Int32) &&& 0x3f).toInt64) ||| ((XT.ushrL (Int64.ofNat t3.1) (3 - 1)) &&& 1)) <<< ((1 : Int32) &&& 0x3f).toInt64) ||| ((XT.ushrL (Int64.ofNat t2.1) ((3 - 1) + (-1))) &&& 1)))), .second, (.val (.int ((((0 + 1) + 1) + 1) + 1))), (.val (.int (0))), (.val (.int (1))), (.val (.int ((3 - 1) + (-1)))), (.val (.int (0 + (((XT.ushrL (Int64.ofNat t2.1) ((3 - 1) + (-1))) &&& 1).toInt32)))), (.val (.int (1 + 1))), (.val (.int (0 + 1))), (.val (.long ((XT.ushrL (Int64.ofNat t3.1) ((3 - 1) + (-1))) &&& 1))), .second] [] [.inl ("com/example/reshelve/reshelve/service/sort/ZCurve", [(("com/example/reshelve/reshelve/service/sort/ZCurve", "dimensions", "I"), (.int (3))), (("com/example/reshelve/reshelve/service/sort/ZCurve", "bits", "I"), (.int (3))), (("com/example/reshelve/reshelve/service/sort/ZCurve", "words", "I"), (.int (1)))]), .inr (.long, [(.long (Int64.ofNat t1.1)), (.long (Int64.ofNat t2.1)), (.long (Int64.ofNat t3.1))]), .inr (.long, [(.long (0))])] _ _ _
    refine W.lloadN d3_61 rfl ?_
    refine W.iconst 1 d3_62 rfl ?_
    refine W.lshl d3_63 ?_
    refine W.lload d3_64 rfl ?_
    refine W.lor d3_66 ?_
    refine W.lstoreN d3_67 rfl ?_
    refine W.iinc 1 d3_68 rfl rfl ?_
    refine W.iload d3_71 rfl ?_
    refine W.bipush 64 d3_73 rfl ?_
    refine W.icmp_ne d3_75 (fun h75 => ?_) (fun h => False.elim (by revert h; decide))
    refine W.iload d3_89 rfl ?_
    refine W.lload d3_91 rfl ?_
    refine W.l2i d3_93 ?_
    refine W.iadd d3_94 ?_
    refine W.istore d3_95 rfl ?_
    refine W.iload d3_97 rfl ?_
    refine W.iconst 1 d3_99 rfl ?_
    refine W.iadd d3_100 ?_
    refine W.aloadN d3_101 rfl rfl ?_
    refine W.getfield 0 d3_102 (hw _ (wd 10 rfl)) rfl rfl ?_
    refine W.icmp_ne d3_105 (fun h => False.elim (by revert h; decide)) (fun h105 => ?_)
    refine W.iconst 0 d3_108 rfl ?_
    refine W.goto d3_109 ?_
    refine W.istore d3_116 rfl ?_
    show WB _ l Z n m3 118 [(.val (.ref 0)), (.val (.ref 1)), (.val (.ref 2)), (.val (.long (((((((((((0 : Int64) <<< ((1 : Int32) &&& 0x3f).toInt64) ||| ((XT.ushrL (Int64.ofNat t1.1) (3 - 1)) &&& 1)) <<< ((1 : Int32) &&& 0x3f).toInt64) ||| ((XT.ushrL (Int64.ofNat t2.1) (3 - 1)) &&& 1)) <<< ((1 : Int32) &&& 0x3f).toInt64) ||| ((XT.ushrL (Int64.ofNat t3.1) (3 - 1)) &&& 1)) <<< ((1 : Int32) &&& 0x3f).toInt64) ||| ((XT.ushrL (Int64.ofNat t2.1) ((3 - 1) + (-1))) &&& 1)) <<< ((1 : Int32) &&& 0x3f).toInt64) ||| ((XT.ushrL (Int64.ofNat t3.1) ((3 - 1) + (-1))) &&& 1)))), .second, (.val (.int (((((0 + 1) + 1) + 1) + 1) + 1))), (.val (.int (0))), (.val (.int (1))), (.val (.int ((3 - 1) + (-1)))), (.val (.int ((0 + (((XT.ushrL (Int64.ofNat t2.1) ((3 - 1) + (-1))) &&& 1).toInt32)) + (((XT.ushrL (Int64.ofNat t3.1) ((3 - 1) + (-1))) &&& 1).toInt32)))), (.val (.int (0))), (.val (.int (0 + 1))), (.val (.long ((XT.ushrL (Int64.ofNat t3.1) ((3 - 1) + (-1))) &&& 1))), .second] [] [.inl ("com/example/reshelve/reshelve/service/sort/ZCurve", [(("com/example/reshelve/reshelve/service/sort/ZCurve", "dimensions", "I"), (.int (3))), (("com/example/reshelve/reshelve/service/sort/ZCurve", "bits", "I"), (.int (3))), (("com/example/reshelve/reshelve/service/sort/ZCurve", "words", "I"), (.int (1)))]), .inr (.long, [(.long (Int64.ofNat t1.1)), (.long (Int64.ofNat t2.1)), (.long (Int64.ofNat t3.1))]), .inr (.long, [(.long (0))])] _ _ _
    refine W.iinc 1 d3_118 rfl rfl ?_
    refine W.goto d3_121 ?_
    show W l Z n m3 41 [(.val (.ref 0)), (.val (.ref 1)), (.val (.ref 2)), (.val (.long (((((((((((0 : Int64) <<< ((1 : Int32) &&& 0x3f).toInt64) ||| ((XT.ushrL (Int64.ofNat t1.1) (3 - 1)) &&& 1)) <<< ((1 : Int32) &&& 0x3f).toInt64) ||| ((XT.ushrL (Int64.ofNat t2.1) (3 - 1)) &&& 1)) <<< ((1 : Int32) &&& 0x3f).toInt64) ||| ((XT.ushrL (Int64.ofNat t3.1) (3 - 1)) &&& 1)) <<< ((1 : Int32) &&& 0x3f).toInt64) ||| ((XT.ushrL (Int64.ofNat t2.1) ((3 - 1) + (-1))) &&& 1)) <<< ((1 : Int32) &&& 0x3f).toInt64) ||| ((XT.ushrL (Int64.ofNat t3.1) ((3 - 1) + (-1))) &&& 1)))), .second, (.val (.int (((((0 + 1) + 1) + 1) + 1) + 1))), (.val (.int (0))), (.val (.int (1))), (.val (.int ((3 - 1) + (-1)))), (.val (.int ((0 + (((XT.ushrL (Int64.ofNat t2.1) ((3 - 1) + (-1))) &&& 1).toInt32)) + (((XT.ushrL (Int64.ofNat t3.1) ((3 - 1) + (-1))) &&& 1).toInt32)))), (.val (.int (0))), (.val (.int ((0 + 1) + 1))), (.val (.long ((XT.ushrL (Int64.ofNat t3.1) ((3 - 1) + (-1))) &&& 1))), .second] [] [.inl ("com/example/reshelve/reshelve/service/sort/ZCurve", [(("com/example/reshelve/reshelve/service/sort/ZCurve", "dimensions", "I"), (.int (3))), (("com/example/reshelve/reshelve/service/sort/ZCurve", "bits", "I"), (.int (3))), (("com/example/reshelve/reshelve/service/sort/ZCurve", "words", "I"), (.int (1)))]), .inr (.long, [(.long (Int64.ofNat t1.1)), (.long (Int64.ofNat t2.1)), (.long (Int64.ofNat t3.1))]), .inr (.long, [(.long (0))])] _ _ _
    refine W.iload d3_41 rfl ?_
    refine W.aloadN d3_43 rfl rfl ?_
    refine W.getfield 0 d3_44 (hw _ (wd 10 rfl)) rfl rfl ?_
    refine W.icmp_ge d3_47 (fun h => False.elim (by revert h; decide)) (fun h47 => ?_)
    refine W.aloadN d3_50 rfl rfl ?_
    refine W.iload d3_51 rfl ?_
    refine W.laload (i := 0) d3_53 rfl ⟨by decide, by decide⟩ rfl ?_
    refine W.iload d3_54 rfl ?_
    refine W.lushr d3_56 ?_
    refine W.lconst 1 d3_57 rfl ?_
    refine W.land d3_58 ?_
    refine W.lstore d3_59 rfl ?_
    refine W.lloadN d3_61 rfl ?_
    refine W.iconst 1 d3_62 rfl ?_
    refine W.lshl d3_63 ?_
    refine W.lload d3_64 rfl ?_
    refine W.lor d3_66 ?_
    refine W.lstoreN d3_67 rfl ?_
    refine W.iinc 1 d3_68 rfl rfl ?_
    show WB _ l Z n m3 71 [(.val (.ref 0)), (.val (.ref 1)), (.val (.ref 2)), (.val (.long (((((((((((((0 : Int64) <<< ((1 : Int32) &&& 0x3f).toInt64) ||| ((XT.ushrL (Int64.ofNat t1.1) (3 - 1)) &&& 1)) <<< ((1 : Int32) &&& 0x3f).toInt64) ||| ((XT.ushrL (Int64.ofNat t2.1) (3 - 1)) &&& 1)) <<< ((1 : Int32) &&& 0x3f).toInt64) ||| ((XT.ushrL (Int64.ofNat t3.1) (3 - 1)) &&& 1)) <<< ((1 : Int32) &&& 0x3f).toInt64) ||| ((XT.ushrL (Int64.ofNat t2.1) ((3 - 1) + (-1))) &&& 1)) <<< ((1 : Int32) &&& 0x3f).toInt64) ||| ((XT.ushrL (Int64.ofNat t3.1) ((3 - 1) + (-1))) &&& 1)) <<< ((1 : Int32) &&& 0x3f).toInt64) ||| ((XT.ushrL (Int64.ofNat t1.1) ((3 - 1) + (-1))) &&& 1)))), .second, (.val (.int ((((((0 + 1) + 1) + 1) + 1) + 1) + 1))), (.val (.int (0))), (.val (.int (1))), (.val (.int ((3 - 1) + (-1)))), (.val (.int ((0 + (((XT.ushrL (Int64.ofNat t2.1) ((3 - 1) + (-1))) &&& 1).toInt32)) + (((XT.ushrL (Int64.ofNat t3.1) ((3 - 1) + (-1))) &&& 1).toInt32)))), (.val (.int (0))), (.val (.int ((0 + 1) + 1))), (.val (.long ((XT.ushrL (Int64.ofNat t1.1) ((3 - 1) + (-1))) &&& 1))), .second] [] [.inl ("com/example/reshelve/reshelve/service/sort/ZCurve", [(("com/example/reshelve/reshelve/service/sort/ZCurve", "dimensions", "I"), (.int (3))), (("com/example/reshelve/reshelve/service/sort/ZCurve", "bits", "I"), (.int (3))), (("com/example/reshelve/reshelve/service/sort/ZCurve", "words", "I"), (.int (1)))]), .inr (.long, [(.long (Int64.ofNat t1.1)), (.long (Int64.ofNat t2.1)), (.long (Int64.ofNat t3.1))]), .inr (.long, [(.long (0))])] _ _ _
    refine W.iload d3_71 rfl ?_
    refine W.bipush 64 d3_73 rfl ?_
    refine W.icmp_ne d3_75 (fun h75 => ?_) (fun h => False.elim (by revert h; decide))
    refine W.iload d3_89 rfl ?_
    refine W.lload d3_91 rfl ?_
    refine W.l2i d3_93 ?_
    refine W.iadd d3_94 ?_
    refine W.istore d3_95 rfl ?_
    refine W.iload d3_97 rfl ?_
    refine W.iconst 1 d3_99 rfl ?_
    refine W.iadd d3_100 ?_
    refine W.aloadN d3_101 rfl rfl ?_
    refine W.getfield 0 d3_102 (hw _ (wd 10 rfl)) rfl rfl ?_
    refine W.icmp_ne d3_105 (fun h105 => ?_) (fun h => False.elim (by revert h; decide))
    refine W.iload d3_112 rfl ?_
    refine W.iconst 1 d3_114 rfl ?_
    refine W.iadd d3_115 ?_
    refine W.istore d3_116 rfl ?_
    refine W.iinc 1 d3_118 rfl rfl ?_
    refine W.goto d3_121 ?_
    show W l Z n m3 41 [(.val (.ref 0)), (.val (.ref 1)), (.val (.ref 2)), (.val (.long (((((((((((((0 : Int64) <<< ((1 : Int32) &&& 0x3f).toInt64) ||| ((XT.ushrL (Int64.ofNat t1.1) (3 - 1)) &&& 1)) <<< ((1 : Int32) &&& 0x3f).toInt64) ||| ((XT.ushrL (Int64.ofNat t2.1) (3 - 1)) &&& 1)) <<< ((1 : Int32) &&& 0x3f).toInt64) ||| ((XT.ushrL (Int64.ofNat t3.1) (3 - 1)) &&& 1)) <<< ((1 : Int32) &&& 0x3f).toInt64) ||| ((XT.ushrL (Int64.ofNat t2.1) ((3 - 1) + (-1))) &&& 1)) <<< ((1 : Int32) &&& 0x3f).toInt64) ||| ((XT.ushrL (Int64.ofNat t3.1) ((3 - 1) + (-1))) &&& 1)) <<< ((1 : Int32) &&& 0x3f).toInt64) ||| ((XT.ushrL (Int64.ofNat t1.1) ((3 - 1) + (-1))) &&& 1)))), .second, (.val (.int ((((((0 + 1) + 1) + 1) + 1) + 1) + 1))), (.val (.int (0))), (.val (.int (1))), (.val (.int ((3 - 1) + (-1)))), (.val (.int (((0 + (((XT.ushrL (Int64.ofNat t2.1) ((3 - 1) + (-1))) &&& 1).toInt32)) + (((XT.ushrL (Int64.ofNat t3.1) ((3 - 1) + (-1))) &&& 1).toInt32)) + (((XT.ushrL (Int64.ofNat t1.1) ((3 - 1) + (-1))) &&& 1).toInt32)))), (.val (.int (0 + 1))), (.val (.int (((0 + 1) + 1) + 1))), (.val (.long ((XT.ushrL (Int64.ofNat t1.1) ((3 - 1) + (-1))) &&& 1))), .second] [] [.inl ("com/example/reshelve/reshelve/service/sort/ZCurve", [(("com/example/reshelve/reshelve/service/sort/ZCurve", "dimensions", "I"), (.int (3))), (("com/example/reshelve/reshelve/service/sort/ZCurve", "bits", "I"), (.int (3))), (("com/example/reshelve/reshelve/service/sort/ZCurve", "words", "I"), (.int (1)))]), .inr (.long, [(.long (Int64.ofNat t1.1)), (.long (Int64.ofNat t2.1)), (.long (Int64.ofNat t3.1))]), .inr (.long, [(.long (0))])] _ _ _
    refine W.iload d3_41 rfl ?_
    refine W.aloadN d3_43 rfl rfl ?_
    refine W.getfield 0 d3_44 (hw _ (wd 10 rfl)) rfl rfl ?_
    refine W.icmp_ge d3_47 (fun h47 => ?_) (fun h => False.elim (by revert h; decide))
    refine W.iload d3_124 rfl ?_
    refine W.iload d3_126 rfl ?_
    refine W.iadd d3_128 ?_
    rcases own_k6 t1 t2 t3 with q1 | q1 | q1 | q1
    · rw [q1]
      refine W.istore d3_129 rfl ?_
      show WB _ l Z n m3 131 [(.val (.ref 0)), (.val (.ref 1)), (.val (.ref 2)), (.val (.long (((((((((((((0 : Int64) <<< ((1 : Int32) &&& 0x3f).toInt64) ||| ((XT.ushrL (Int64.ofNat t1.1) (3 - 1)) &&& 1)) <<< ((1 : Int32) &&& 0x3f).toInt64) ||| ((XT.ushrL (Int64.ofNat t2.1) (3 - 1)) &&& 1)) <<< ((1 : Int32) &&& 0x3f).toInt64) ||| ((XT.ushrL (Int64.ofNat t3.1) (3 - 1)) &&& 1)) <<< ((1 : Int32) &&& 0x3f).toInt64) ||| ((XT.ushrL (Int64.ofNat t2.1) ((3 - 1) + (-1))) &&& 1)) <<< ((1 : Int32) &&& 0x3f).toInt64) ||| ((XT.ushrL (Int64.ofNat t3.1) ((3 - 1) + (-1))) &&& 1)) <<< ((1 : Int32) &&& 0x3f).toInt64) ||| ((XT.ushrL (Int64.ofNat t1.1) ((3 - 1) + (-1))) &&& 1)))), .second, (.val (.int ((((((0 + 1) + 1) + 1) + 1) + 1) + 1))), (.val (.int (0))), (.val (.int (1))), (.val (.int ((3 - 1) + (-1)))), (.val (.int (((0 + (((XT.ushrL (Int64.ofNat t2.1) ((3 - 1) + (-1))) &&& 1).toInt32)) + (((XT.ushrL (Int64.ofNat t3.1) ((3 - 1) + (-1))) &&& 1).toInt32)) + (((XT.ushrL (Int64.ofNat t1.1) ((3 - 1) + (-1))) &&& 1).toInt32)))), (.val (.int (0 + 1))), (.val (.int (((0 + 1) + 1) + 1))), (.val (.long ((XT.ushrL (Int64.ofNat t1.1) ((3 - 1) + (-1))) &&& 1))), .second] [] [.inl ("com/example/reshelve/reshelve/service/sort/ZCurve", [(("com/example/reshelve/reshelve/service/sort/ZCurve", "dimensions", "I"), (.int (3))), (("com/example/reshelve/reshelve/service/sort/ZCurve", "bits", "I"), (.int (3))), (("com/example/reshelve/reshelve/service/sort/ZCurve", "words", "I"), (.int (1)))]), .inr (.long, [(.long (Int64.ofNat t1.1)), (.long (Int64.ofNat t2.1)), (.long (Int64.ofNat t3.1))]), .inr (.long, [(.long (0))])] _ _ _
      refine W.iload d3_131 rfl ?_
      refine W.aloadN d3_133 rfl rfl ?_
      refine W.getfield 0 d3_134 (hw _ (wd 10 rfl)) rfl rfl ?_
      refine W.icmp_lt d3_137 (fun h137 => ?_) (fun h => False.elim (by revert h; decide))
      refine W.iinc (-1) d3_149 rfl rfl ?_
      refine W.goto d3_152 ?_
      refine W.iload d3_26 rfl ?_
      refine W.if_lt d3_28 (fun h => False.elim (by revert h; decide)) (fun h28 => ?_)
      refine W.iconst 0 d3_31 rfl ?_
      refine W.istore d3_32 rfl ?_
      refine W.iload d3_34 rfl ?_
      refine W.istore d3_36 rfl ?_
      refine W.iconst 0 d3_38 rfl ?_
      refine W.istore d3_39 rfl ?_
      show W l Z n m3 41 [(.val (.ref 0)), (.val (.ref 1)), (.val (.ref 2)), (.val (.long (((((((((((((0 : Int64) <<< ((1 : Int32) &&& 0x3f).toInt64) ||| ((XT.ushrL (Int64.ofNat t1.1) (3 - 1)) &&& 1)) <<< ((1 : Int32) &&& 0x3f).toInt64) ||| ((XT.ushrL (Int64.ofNat t2.1) (3 - 1)) &&& 1)) <<< ((1 : Int32) &&& 0x3f).toInt64) ||| ((XT.ushrL (Int64.ofNat t3.1) (3 - 1)) &&& 1)) <<< ((1 : Int32) &&& 0x3f).toInt64) ||| ((XT.ushrL (Int64.ofNat t2.1) ((3 - 1) + (-1))) &&& 1)) <<< ((1 : Int32) &&& 0x3f).toInt64) ||| ((XT.ushrL (Int64.ofNat t3.1) ((3 - 1) + (-1))) &&& 1)) <<< ((1 : Int32) &&& 0x3f).toInt64) ||| ((XT.ushrL (Int64.ofNat t1.1) ((3 - 1) + (-1))) &&& 1)))), .second, (.val (.int ((((((0 + 1) + 1) + 1) + 1) + 1) + 1))), (.val (.int (0))), (.val (.int (1))), (.val (.int (((3 - 1) + (-1)) + (-1)))), (.val (.int (0))), (.val (.int (1))), (.val (.int (0))), (.val (.long ((XT.ushrL (Int64.ofNat t1.1) ((3 - 1) + (-1))) &&& 1))), .second] [] [.inl ("com/example/reshelve/reshelve/service/sort/ZCurve", [(("com/example/reshelve/reshelve/service/sort/ZCurve", "dimensions", "I"), (.int (3))), (("com/example/reshelve/reshelve/service/sort/ZCurve", "bits", "I"), (.int (3))), (("com/example/reshelve/reshelve/service/sort/ZCurve", "words", "I"), (.int (1)))]), .inr (.long, [(.long (Int64.ofNat t1.1)), (.long (Int64.ofNat t2.1)), (.long (Int64.ofNat t3.1))]), .inr (.long, [(.long (0))])] _ _ _
      show WB _ l Z n m3 41 [(.val (.ref 0)), (.val (.ref 1)), (.val (.ref 2)), (.val (.long (((((((((((((0 : Int64) <<< ((1 : Int32) &&& 0x3f).toInt64) ||| ((XT.ushrL (Int64.ofNat t1.1) (3 - 1)) &&& 1)) <<< ((1 : Int32) &&& 0x3f).toInt64) ||| ((XT.ushrL (Int64.ofNat t2.1) (3 - 1)) &&& 1)) <<< ((1 : Int32) &&& 0x3f).toInt64) ||| ((XT.ushrL (Int64.ofNat t3.1) (3 - 1)) &&& 1)) <<< ((1 : Int32) &&& 0x3f).toInt64) ||| ((XT.ushrL (Int64.ofNat t2.1) ((3 - 1) + (-1))) &&& 1)) <<< ((1 : Int32) &&& 0x3f).toInt64) ||| ((XT.ushrL (Int64.ofNat t3.1) ((3 - 1) + (-1))) &&& 1)) <<< ((1 : Int32) &&& 0x3f).toInt64) ||| ((XT.ushrL (Int64.ofNat t1.1) ((3 - 1) + (-1))) &&& 1)))), .second, (.val (.int ((((((0 + 1) + 1) + 1) + 1) + 1) + 1))), (.val (.int (0))), (.val (.int (1))), (.val (.int (((3 - 1) + (-1)) + (-1)))), (.val (.int (0))), (.val (.int (1))), (.val (.int (0))), (.val (.long ((XT.ushrL (Int64.ofNat t1.1) ((3 - 1) + (-1))) &&& 1))), .second] [] [.inl ("com/example/reshelve/reshelve/service/sort/ZCurve", [(("com/example/reshelve/reshelve/service/sort/ZCurve", "dimensions", "I"), (.int (3))), (("com/example/reshelve/reshelve/service/sort/ZCurve", "bits", "I"), (.int (3))), (("com/example/reshelve/reshelve/service/sort/ZCurve", "words", "I"), (.int (1)))]), .inr (.long, [(.long (Int64.ofNat t1.1)), (.long (Int64.ofNat t2.1)), (.long (Int64.ofNat t3.1))]), .inr (.long, [(.long (0))])] _ _ _
      refine W.iload d3_41 rfl ?_
      refine W.aloadN d3_43 rfl rfl ?_
      refine W.getfield 0 d3_44 (hw _ (wd 10 rfl)) rfl rfl ?_
      refine W.icmp_ge d3_47 (fun h => False.elim (by revert h; decide)) (fun h47 => ?_)
      refine W.aloadN d3_50 rfl rfl ?_
      refine W.iload d3_51 rfl ?_
      refine W.laload (i := 1) d3_53 rfl ⟨by decide, by decide⟩ rfl ?_
      refine W.iload d3_54 rfl ?_
      refine W.lushr d3_56 ?_
      refine W.lconst 1 d3_57 rfl ?_
      refine W.land d3_58 ?_
      refine W.lstore d3_59 rfl ?_
      refine W.lloadN d3_61 rfl ?_
      refine W.iconst 1 d3_62 rfl ?_
      refine W.lshl d3_63 ?_
      refine W.lload d3_64 rfl ?_
      refine W.lor d3_66 ?_
      refine W.lstoreN d3_67 rfl ?_
      refine W.iinc 1 d3_68 rfl rfl ?_
      refine W.iload d3_71 rfl ?_
      refine W.bipush 64 d3_73 rfl ?_
      refine W.icmp_ne d3_75 (fun h75 => ?_) (fun h => False.elim (by revert h; decide))
      refine W.iload d3_89 rfl ?_
      refine W.lload d3_91 rfl ?_
      refine W.l2i d3_93 ?_
      refine W.iadd d3_94 ?_
      refine W.istore d3_95 rfl ?_
      show WB _ l Z n m3 97 [(.val (.ref 0)), (.val (.ref 1)), (.val (.ref 2)), (.val (.long (((((((((((((((0 : Int64) <<< ((1 : Int32) &&& 0x3f).toInt64) ||| ((XT.ushrL (Int64.ofNat t1.1) (3 - 1)) &&& 1)) <<< ((1 : Int32) &&& 0x3f).toInt64) ||| ((XT.ushrL (Int64.ofNat t2.1) (3 - 1)) &&& 1)) <<< ((1 : Int32) &&& 0x3f).toInt64) ||| ((XT.ushrL (Int64.ofNat t3.1) (3 - 1)) &&& 1)) <<< ((1 : Int32) &&& 0x3f).toInt64) ||| ((XT.ushrL (Int64.ofNat t2.1) ((3 - 1) + (-1))) &&& 1)) <<< ((1 : Int32) &&& 0x3f).toInt64) ||| ((XT.ushrL (Int64.ofNat t3.1) ((3 - 1) + (-1))) &&& 1)) <<< ((1 : Int32) &&& 0x3f).toInt64) ||| ((XT.ushrL (Int64.ofNat t1.1) ((3 - 1) + (-1))) &&& 1)) <<< ((1 : Int32) &&& 0x3f).toInt64) ||| ((XT.ushrL (Int64.ofNat t2.1) (((3 - 1) + (-1)) + (-1))) &&& 1)))), .second, (.val (.int (((((((0 + 1) + 1) + 1) + 1) + 1) + 1) + 1))), (.val (.int (0))), (.val (.int (1))), (.val (.int (((3 - 1) + (-1)) + (-1)))), (.val (.int (0 + (((XT.ushrL (Int64.ofNat t2.1) (((3 - 1) + (-1)) + (-1))) &&& 1).toInt32)))), (.val (.int (1))), (.val (.int (0))), (.val (.long ((XT.ushrL (Int64.ofNat t2.1) (((3 - 1) + (-1)) + (-1))) &&& 1))), .second] [] [.inl ("com/example/reshelve/reshelve/service/sort/ZCurve", [(("com/example/reshelve/reshelve/service/sort/ZCurve", "dimensions", "I"), (.int (3))), (("com/example/reshelve/reshelve/service/sort/ZCurve", "bits", "I"), (.int (3))), (("com/example/reshelve/reshelve/service/sort/ZCurve", "words", "I"), (.int (1)))]), .inr (.long, [(.long (Int64.ofNat t1.1)), (.long (Int64.ofNat t2.1)), (.long (Int64.ofNat t3.1))]), .inr (.long, [(.long (0))])] _ _ _
      refine W.iload d3_97 rfl ?_
      refine W.iconst 1 d3_99 rfl ?_
      refine W.iadd d3_100 ?_
      refine W.aloadN d3_101 rfl rfl ?_
      refine W.getfield 0 d3_102 (hw _ (wd 10 rfl)) rfl rfl ?_
      refine W.icmp_ne d3_105 (fun h105 => ?_) (fun h => False.elim (by revert h; decide))
      refine W.iload d3_112 rfl ?_
      refine W.iconst 1 d3_114 rfl ?_
      refine W.iadd d3_115 ?_
      refine W.istore d3_116 rfl ?_
      refine W.iinc 1 d3_118 rfl rfl ?_
      refine W.goto d3_121 ?_
      show W l Z n m3 41 [(.val (.ref 0)), (.val (.ref 1)), (.val (.ref 2)), (.val (.long (((((((((((((((0 : Int64) <<< ((1 : Int32) &&& 0x3f).toInt64) ||| ((XT.ushrL (Int64.ofNat t1.1) (3 - 1)) &&& 1)) <<< ((1 : Int32) &&& 0x3f).toInt64) ||| ((XT.ushrL (Int64.ofNat t2.1) (3 - 1)) &&& 1)) <<< ((1 : Int32) &&& 0x3f).toInt64) ||| ((XT.ushrL (Int64.ofNat t3.1) (3 - 1)) &&& 1)) <<< ((1 : Int32) &&& 0x3f).toInt64) ||| ((XT.ushrL (Int64.ofNat t2.1) ((3 - 1) + (-1))) &&& 1)) <<< ((1 : Int32) &&& 0x3f).toInt64) ||| ((XT.ushrL (Int64.ofNat t3.1) ((3 - 1) + (-1))) &&& 1)) <<< ((1 : Int32) &&& 0x3f).toInt64) ||| ((XT.ushrL (Int64.ofNat t1.1) ((3 - 1) + (-1))) &&& 1)) <<< ((1 : Int32) &&& 0x3f).toInt64) ||| ((XT.ushrL (Int64.ofNat t2.1) (((3 - 1) + (-1)) + (-1))) &&& 1)))), .second, (.val (.int (((((((0 + 1) + 1) + 1) + 1) + 1) + 1) + 1))), (.val (.int (0))), (.val (.int (1))), (.val (.int (((3 - 1) + (-1)) + (-1)))), (.val (.int (0 + (((XT.ushrL (Int64.ofNat t2.1) (((3 - 1) + (-1)) + (-1))) &&& 1).toInt32)))), (.val (.int (1 + 1))), (.val (.int (0 + 1))), (.val (.long ((XT.ushrL (Int64.ofNat t2.1) (((3 - 1) + (-1)) + (-1))) &&& 1))), .second] [] [.inl ("com/example/reshelve/reshelve/service/sort/ZCurve", [(("com/example/reshelve/reshelve/service/sort/ZCurve", "dimensions", "I"), (.int (3))), (("com/example/reshelve/reshelve/service/sort/ZCurve", "bits", "I"), (.int (3))), (("com/example/reshelve/reshelve/service/sort/ZCurve", "words", "I"), (.int (1)))]), .inr (.long, [(.long (Int64.ofNat t1.1)), (.long (Int64.ofNat t2.1)), (.long (Int64.ofNat t3.1))]), .inr (.long, [(.long (0))])] _ _ _
      refine W.iload d3_41 rfl ?_
      refine W.aloadN d3_43 rfl rfl ?_
      refine W.getfield 0 d3_44 (hw _ (wd 10 rfl)) rfl rfl ?_
      refine W.icmp_ge d3_47 (fun h => False.elim (by revert h; decide)) (fun h47 => ?_)
      refine W.aloadN d3_50 rfl rfl ?_
      refine W.iload d3_51 rfl ?_
      refine W.laload (i := 2) d3_53 rfl ⟨by decide, by decide⟩ rfl ?_
      refine W.iload d3_54 rfl ?_
      refine W.lushr d3_56 ?_
      refine W.lconst 1 d3_57 rfl ?_
      refine W.land d3_58 ?_
      refine W.lstore d3_59 rfl ?_
      refine W.lloadN d3_61 rfl ?_
      refine W.iconst 1 d3_62 rfl ?_
      refine W.lshl d3_63 ?_
      refine W.lload d3_64 rfl ?_
      refine W.lor d3_66 ?_
      refine W.lstoreN d3_67 rfl ?_
      show WB _ l Z n m3 68 [(.val (.ref 0)), (.val (.ref 1)), (.val (.ref 2)), (.val (.long (((((((((((((((((0 : Int64) <<< ((1 : Int32) &&& 0x3f).toInt64) ||| ((XT.ushrL (Int64.ofNat t1.1) (3 - 1)) &&& 1)) <<< ((1 : Int32) &&& 0x3f).toInt64) ||| ((XT.ushrL (Int64.ofNat t2.1) (3 - 1)) &&& 1)) <<< ((1 : Int32) &&& 0x3f).toInt64) ||| ((XT.ushrL (Int64.ofNat t3.1) (3 - 1)) &&& 1)) <<< ((1 : Int32) &&& 0x3f).toInt64) ||| ((XT.ushrL (Int64.ofNat t2.1) ((3 - 1) + (-1))) &&& 1)) <<< ((1 : Int32) &&& 0x3f).toInt64) ||| ((XT.ushrL (Int64.ofNat t3.1) ((3 - 1) + (-1))) &&& 1)) <<< ((1 : Int32) &&& 0x3f).toInt64) ||| ((XT.ushrL (Int64.ofNat t1.1) ((3 - 1) + (-1))) &&& 1)) <<< ((1 : Int32) &&& 0x3f).toInt64) ||| ((XT.ushrL (Int64.ofNat t2.1) (((3 - 1) + (-1)) + (-1))) &&& 1)) <<< ((1 : Int32) &&& 0x3f).toInt64) ||| ((XT.ushrL (Int64.ofNat t3.1) (((3 - 1) + (-1)) + (-1))) &&& 1)))), .second, (.val (.int (((((((0 + 1) + 1) + 1) + 1) + 1) + 1) + 1))), (.val (.int (0))), (.val (.int (1))), (.val (.int (((3 - 1) + (-1)) + (-1)))), (.val (.int (0 + (((XT.ushrL (Int64.ofNat t2.1) (((3 - 1) + (-1)) + (-1))) &&& 1).toInt32)))), (.val (.int (1 + 1))), (.val (.int (0 + 1))), (.val (.long ((XT.ushrL (Int64.ofNat t3.1) (((3 - 1) + (-1)) + (-1))) &&& 1))), .second] [] [.inl ("com/example/reshelve/reshelve/service/sort/ZCurve", [(("com/example/reshelve/reshelve/service/sort/ZCurve", "dimensions", "I"), (.int (3))), (("com/example/reshelve/reshelve/service/sort/ZCurve", "bits", "I"), (.int (3))), (("com/example/reshelve/reshelve/service/sort/ZCurve", "words", "I"), (.int (1)))]), .inr (.long, [(.long (Int64.ofNat t1.1)), (.long (Int64.ofNat t2.1)), (.long (Int64.ofNat t3.1))]), .inr (.long, [(.long (0))])] _ _ _
      refine W.iinc 1 d3_68 rfl rfl ?_
      refine W.iload d3_71 rfl ?_
      refine W.bipush 64 d3_73 rfl ?_
      refine W.icmp_ne d3_75 (fun h75 => ?_) (fun h => False.elim (by revert h; decide))
      refine W.iload d3_89 rfl ?_
      refine W.lload d3_91 rfl ?_
      refine W.l2i d3_93 ?_
      refine W.iadd d3_94 ?_
      refine W.istore d3_95 rfl ?_
      refine W.iload d3_97 rfl ?_
      refine W.iconst 1 d3_99 rfl ?_
      refine W.iadd d3_100 ?_
      refine W.aloadN d3_101 rfl rfl ?_
      refine W.getfield 0 d3_102 (hw _ (wd 10 rfl)) rfl rfl ?_
      refine W.icmp_ne d3_105 (fun h => False.elim (by revert h; decide)) (fun h105 => ?_)
      refine W.iconst 0 d3_108 rfl ?_
      refine W.goto d3_109 ?_
      refine W.istore d3_116 rfl ?_
      refine W.iinc 1 d3_118 rfl rfl ?_
      show WB _ l Z n m3 121 [(.val (.ref 0)), (.val (.ref 1)), (.val (.ref 2)), (.val (.long (((((((((((((((((0 : Int64) <<< ((1 : Int32) &&& 0x3f).toInt64) ||| ((XT.ushrL (Int64.ofNat t1.1) (3 - 1)) &&& 1)) <<< ((1 : Int32) &&& 0x3f).toInt64) ||| ((XT.ushrL (Int64.ofNat t2.1) (3 - 1)) &&& 1)) <<< ((1 : Int32) &&& 0x3f).toInt64) ||| ((XT.ushrL (Int64.ofNat t3.1) (3 - 1)) &&& 1)) <<< ((1 : Int32) &&& 0x3f).toInt64) ||| ((XT.ushrL (Int64.ofNat t2.1) ((3 - 1) + (-1))) &&& 1)) <<< ((1 : Int32) &&& 0x3f).toInt64) ||| ((XT.ushrL (Int64.ofNat t3.1) ((3 - 1) + (-1))) &&& 1)) <<< ((1 : Int32) &&& 0x3f).toInt64) ||| ((XT.ushrL (Int64.ofNat t1.1) ((3 - 1) + (-1))) &&& 1)) <<< ((1 : Int32) &&& 0x3f).toInt64) ||| ((XT.ushrL (Int64.ofNat t2.1) (((3 - 1) + (-1)) + (-1))) &&& 1)) <<< ((1 : Int32) &&& 0x3f).toInt64) ||| ((XT.ushrL (Int64.ofNat t3.1) (((3 - 1) + (-1)) + (-1))) &&& 1)))), .second, (.val (.int ((((((((0 + 1) + 1) + 1) + 1) + 1) + 1) + 1) + 1))), (.val (.int (0))), (.val (.int (1))), (.val (.int (((3 - 1) + (-1)) + (-1)))), (.val (.int ((0 + (((XT.ushrL (Int64.ofNat t2.1) (((3 - 1) + (-1)) + (-1))) &&& 1).toInt32)) + (((XT.ushrL (Int64.ofNat t3.1) (((3 - 1) + (-1)) + (-1))) &&& 1).toInt32)))), (.val (.int (0))), (.val (.int ((0 + 1) + 1))), (.val (.long ((XT.ushrL (Int64.ofNat t3.1) (((3 - 1) + (-1)) + (-1))) &&& 1))), .second] [] [.inl ("com/example/reshelve/reshelve/service/sort/ZCurve", [(("com/example/reshelve/reshelve/service/sort/ZCurve", "dimensions", "I"), (.int (3))), (("com/example/reshelve/reshelve/service/sort/ZCurve", "bits", "I"), (.int (3))), (("com/example/reshelve/reshelve/service/sort/ZCurve", "words", "I"), (.int (1)))]), .inr (.long, [(.long (Int64.ofNat t1.1)), (.long (Int64.ofNat t2.1)), (.long (Int64.ofNat t3.1))]), .inr (.long, [(.long (0))])] _ _ _
      refine W.goto d3_121 ?_
      show W l Z n m3 41 [(.val (.ref 0)), (.val (.ref 1)), (.val (.ref 2)), (.val (.long (((((((((((((((((0 : Int64) <<< ((1 : Int32) &&& 0x3f).toInt64) ||| ((XT.ushrL (Int64.ofNat t1.1) (3 - 1)) &&& 1)) <<< ((1 : Int32) &&& 0x3f).toInt64) ||| ((XT.ushrL (Int64.ofNat t2.1) (3 - 1)) &&& 1)) <<< ((1 : Int32) &&& 0x3f).toInt64) ||| ((XT.ushrL (Int64.ofNat t3.1) (3 - 1)) &&& 1)) <<< ((1 : Int32) &&& 0x3f).toInt64) ||| ((XT.ushrL (Int64.ofNat t2.1) ((3 - 1) + (-1))) &&& 1)) <<< ((1 : Int32) &&& 0x3f).toInt64) ||| ((XT.ushrL (Int64.ofNat t3.1) ((3 - 1) + (-1))) &&& 1)) <<< ((1 : Int32) &&& 0x3f).toInt64) ||| ((XT.ushrL (Int64.ofNat t1.1) ((3 - 1) + (-1))) &&& 1)) <<< ((1 : Int32) &&& 0x3f).toInt64) ||| ((XT.ushrL (Int64.ofNat t2.1) (((3 - 1) + (-1)) + (-1))) &&& 1)) <<< ((1 : Int32) &&& 0x3f).toInt64) ||| ((XT.ushrL (Int64.ofNat t3.1) (((3 - 1) + (-1)) + (-1))) &&& 1)))), .second, (.val (.int ((((((((0 + 1) + 1) + 1) + 1) + 1) + 1) + 1) + 1))), (.val (.int (0))), (.val (.int (1))), (.val (.int (((3 - 1) + (-1)) + (-1)))), (.val (.int ((0 + (((XT.ushrL (Int64.ofNat t2.1) (((3 - 1) + (-1)) + (-1))) &&& 1).toInt32)) + (((XT.ushrL (Int64.ofNat t3.1) (((3 - 1) + (-1)) + (-1))) &&& 1).toInt32)))), (.val (.int (0))), (.val (.int ((0 + 1) + 1))), (.val (.long ((XT.ushrL (Int64.ofNat t3.1) (((3 - 1) + (-1)) + (-1))) &&& 1))), .second] [] [.inl ("com/example/reshelve/reshelve/service/sort/ZCurve", [(("com/example/reshelve/reshelve/service/sort/ZCurve", "dimensions", "I"), (.int (3))), (("com/example/reshelve/reshelve/service/sort/ZCurve", "bits", "I"), (.int (3))), (("com/example/reshelve/reshelve/service/sort/ZCurve", "words", "I"), (.int (1)))]), .inr (.long, [(.long (Int64.ofNat t1.1)), (.long (Int64.ofNat t2.1)), (.long (Int64.ofNat t3.1))]), .inr (.long, [(.long (0))])] _ _ _
      refine W.iload d3_41 rfl ?_
      refine W.aloadN d3_43 rfl rfl ?_
      refine W.getfield 0 d3_44 (hw _ (wd 10 rfl)) rfl rfl ?_
      refine W.icmp_ge d3_47 (fun h => False.elim (by revert h; decide)) (fun h47 => ?_)
      refine W.aloadN d3_50 rfl rfl ?_
      refine W.iload d3_51 rfl ?_
      refine W.laload (i := 0) d3_53 rfl ⟨by decide, by decide⟩ rfl ?_
      refine W.iload d3_54 rfl ?_
      refine W.lushr d3_56 ?_
      refine W.lconst 1 d3_57 rfl ?_
      refine W.land d3_58 ?_
      refine W.lstore d3_59 rfl ?_
      refine W.lloadN d3_61 rfl ?_
      refine W.iconst 1 d3_62 rfl ?_
      refine W.lshl d3_63 ?_
      refine W.lload d3_64 rfl ?_
      refine W.lor d3_66 ?_
      refine W.lstoreN d3_67 rfl ?_
      refine W.iinc 1 d3_68 rfl rfl ?_
      refine W.iload d3_71 rfl ?_
      refine W.bipush 64 d3_73 rfl ?_
      refine W.icmp_ne d3_75 (fun h75 => ?_) (fun h => False.elim (by revert h; decide))
      refine W.iload d3_89 rfl ?_
      refine W.lload d3_91 rfl ?_
      refine W.l2i d3_93 ?_
      refine W.iadd d3_94 ?_
      refine W.istore d3_95 rfl ?_
      show WB _ l Z n m3 97 [(.val (.ref 0)), (.val (.ref 1)), (.val (.ref 2)), (.val (.long (((((((((((((((((((0 : Int64) <<< ((1 : Int32) &&& 0x3f).toInt64) ||| ((XT.ushrL (Int64.ofNat t1.1) (3 - 1)) &&& 1)) <<< ((1 : Int32) &&& 0x3f).toInt64) ||| ((XT.ushrL (Int64.ofNat t2.1) (3 - 1)) &&& 1)) <<< ((1 : Int32) &&& 0x3f).toInt64) ||| ((XT.ushrL (Int64.ofNat t3.1) (3 - 1)) &&& 1)) <<< ((1 : Int32) &&& 0x3f).toInt64) ||| ((XT.ushrL (Int64.ofNat t2.1) ((3 - 1) + (-1))) &&& 1)) <<< ((1 : Int32) &&& 0x3f).toInt64) ||| ((XT.ushrL (Int64.ofNat t3.1) ((3 - 1) + (-1))) &&& 1)) <<< ((1 : Int32) &&& 0x3f).toInt64) ||| ((XT.ushrL (Int64.ofNat t1.1) ((3 - 1) + (-1))) &&& 1)) <<< ((1 : Int32) &&& 0x3f).toInt64) ||| ((XT.ushrL (Int64.ofNat t2.1) (((3 - 1) + (-1)) + (-1))) &&& 1)) <<< ((1 : Int32) &&& 0x3f).toInt64) ||| ((XT.ushrL (Int64.ofNat t3.1) (((3 - 1) + (-1)) + (-1))) &&& 1)) <<< ((1 : Int32) &&& 0x3f).toInt64) ||| ((XT.ushrL (Int64.ofNat t1.1) (((3 - 1) + (-1)) + (-1))) &&& 1)))), .second, (.val (.int (((((((((0 + 1) + 1) + 1) + 1) + 1) + 1) + 1) + 1) + 1))), (.val (.int (0))), (.val (.int (1))), (.val (.int (((3 - 1) + (-1)) + (-1)))), (.val (.int (((0 + (((XT.ushrL (Int64.ofNat t2.1) (((3 - 1) + (-1)) + (-1))) &&& 1).toInt32)) + (((XT.ushrL (Int64.ofNat t3.1) (((3 - 1) + (-1)) + (-1))) &&& 1).toInt32)) + (((XT.ushrL (Int64.ofNat t1.1) (((3 - 1) + (-1)) + (-1))) &&& 1).toInt32)))), (.val (.int (0))), (.val (.int ((0 + 1) + 1))), (.val (.long ((XT.ushrL (Int64.ofNat t1.1) (((3 - 1) + (-1)) + (-1))) &&& 1))), .second] [] [.inl ("com/example/reshelve/reshelve/service/sort/ZCurve", [(("com/example/reshelve/reshelve/service/sort/ZCurve", "dimensions", "I"), (.int (3))), (("com/example/reshelve/reshelve/service/sort/ZCurve", "bits", "I"), (.int (3))), (("com/example/reshelve/reshelve/service/sort/ZCurve", "words", "I"), (.int (1)))]), .inr (.long, [(.long (Int64.ofNat t1.1)), (.long (Int64.ofNat t2.1)), (.long (Int64.ofNat t3.1))]), .inr (.long, [(.long (0))])] _ _ _
      refine W.iload d3_97 rfl ?_
      refine W.iconst 1 d3_99 rfl ?_
      refine W.iadd d3_100 ?_
      refine W.aloadN d3_101 rfl rfl ?_
      refine W.getfield 0 d3_102 (hw _ (wd 10 rfl)) rfl rfl ?_
      refine W.icmp_ne d3_105 (fun h105 => ?_) (fun h => False.elim (by revert h; decide))
      refine W.iload d3_112 rfl ?_
      refine W.iconst 1 d3_114 rfl ?_
      refine W.iadd d3_115 ?_
      refine W.istore d3_116 rfl ?_
      refine W.iinc 1 d3_118 rfl rfl ?_
      refine W.goto d3_121 ?_
      show W l Z n m3 41 [(.val (.ref 0)), (.val (.ref 1)), (.val (.ref 2)), (.val (.long (((((((((((((((((((0 : Int64) <<< ((1 : Int32) &&& 0x3f).toInt64) ||| ((XT.ushrL (Int64.ofNat t1.1) (3 - 1)) &&& 1)) <<< ((1 : Int32) &&& 0x3f).toInt64) ||| ((XT.ushrL (Int64.ofNat t2.1) (3 - 1)) &&& 1)) <<< ((1 : Int32) &&& 0x3f).toInt64) ||| ((XT.ushrL (Int64.ofNat t3.1) (3 - 1)) &&& 1)) <<< ((1 : Int32) &&& 0x3f).toInt64) ||| ((XT.ushrL (Int64.ofNat t2.1) ((3 - 1) + (-1))) &&& 1)) <<< ((1 : Int32) &&& 0x3f).toInt64) ||| ((XT.ushrL (Int64.ofNat t3.1) ((3 - 1) + (-1))) &&& 1)) <<< ((1 : Int32) &&& 0x3f).toInt64) ||| ((XT.ushrL (Int64.ofNat t1.1) ((3 - 1) + (-1))) &&& 1)) <<< ((1 : Int32) &&& 0x3f).toInt64) ||| ((XT.ushrL (Int64.ofNat t2.1) (((3 - 1) + (-1)) + (-1))) &&& 1)) <<< ((1 : Int32) &&& 0x3f).toInt64) ||| ((XT.ushrL (Int64.ofNat t3.1) (((3 - 1) + (-1)) + (-1))) &&& 1)) <<< ((1 : Int32) &&& 0x3f).toInt64) ||| ((XT.ushrL (Int64.ofNat t1.1) (((3 - 1) + (-1)) + (-1))) &&& 1)))), .second, (.val (.int (((((((((0 + 1) + 1) + 1) + 1) + 1) + 1) + 1) + 1) + 1))), (.val (.int (0))), (.val (.int (1))), (.val (.int (((3 - 1) + (-1)) + (-1)))), (.val (.int (((0 + (((XT.ushrL (Int64.ofNat t2.1) (((3 - 1) + (-1)) + (-1))) &&& 1).toInt32)) + (((XT.ushrL (Int64.ofNat t3.1) (((3 - 1) + (-1)) + (-1))) &&& 1).toInt32)) + (((XT.ushrL (Int64.ofNat t1.1) (((3 - 1) + (-1)) + (-1))) &&& 1).toInt32)))), (.val (.int (0 + 1))), (.val (.int (((0 + 1) + 1) + 1))), (.val (.long ((XT.ushrL (Int64.ofNat t1.1) (((3 - 1) + (-1)) + (-1))) &&& 1))), .second] [] [.inl ("com/example/reshelve/reshelve/service/sort/ZCurve", [(("com/example/reshelve/reshelve/service/sort/ZCurve", "dimensions", "I"), (.int (3))), (("com/example/reshelve/reshelve/service/sort/ZCurve", "bits", "I"), (.int (3))), (("com/example/reshelve/reshelve/service/sort/ZCurve", "words", "I"), (.int (1)))]), .inr (.long, [(.long (Int64.ofNat t1.1)), (.long (Int64.ofNat t2.1)), (.long (Int64.ofNat t3.1))]), .inr (.long, [(.long (0))])] _ _ _
      refine W.iload d3_41 rfl ?_
      refine W.aloadN d3_43 rfl rfl ?_
      refine W.getfield 0 d3_44 (hw _ (wd 10 rfl)) rfl rfl ?_
      refine W.icmp_ge d3_47 (fun h47 => ?_) (fun h => False.elim (by revert h; decide))
      refine W.iload d3_124 rfl ?_
      refine W.iload d3_126 rfl ?_
      refine W.iadd d3_128 ?_
      refine W.istore d3_129 rfl ?_
      refine W.iload d3_131 rfl ?_
      refine W.aloadN d3_133 rfl rfl ?_
      refine W.getfield 0 d3_134 (hw _ (wd 10 rfl)) rfl rfl ?_
      refine W.icmp_lt d3_137 (fun h137 => ?_) (fun h137 => ?_)
      · refine W.iinc (-1) d3_149 rfl rfl ?_
        show WB _ l Z n m3 152 [(.val (.ref 0)), (.val (.ref 1)), (.val (.ref 2)), (.val (.long (((((((((((((((((((0 : Int64) <<< ((1 : Int32) &&& 0x3f).toInt64) ||| ((XT.ushrL (Int64.ofNat t1.1) (3 - 1)) &&& 1)) <<< ((1 : Int32) &&& 0x3f).toInt64) ||| ((XT.ushrL (Int64.ofNat t2.1) (3 - 1)) &&& 1)) <<< ((1 : Int32) &&& 0x3f).toInt64) ||| ((XT.ushrL (Int64.ofNat t3.1) (3 - 1)) &&& 1)) <<< ((1 : Int32) &&& 0x3f).toInt64) ||| ((XT.ushrL (Int64.ofNat t2.1) ((3 - 1) + (-1))) &&& 1)) <<< ((1 : Int32) &&& 0x3f).toInt64) ||| ((XT.ushrL (Int64.ofNat t3.1) ((3 - 1) + (-1))) &&& 1)) <<< ((1 : Int32) &&& 0x3f).toInt64) ||| ((XT.ushrL (Int64.ofNat t1.1) ((3 - 1) + (-1))) &&& 1)) <<< ((1 : Int32) &&& 0x3f).toInt64) ||| ((XT.ushrL (Int64.ofNat t2.1) (((3 - 1) + (-1)) + (-1))) &&& 1)) <<< ((1 : Int32) &&& 0x3f).toInt64) ||| ((XT.ushrL (Int64.ofNat t3.1) (((3 - 1) + (-1)) + (-1))) &&& 1)) <<< ((1 : Int32) &&& 0x3f).toInt64) ||| ((XT.ushrL (Int64.ofNat t1.1) (((3 - 1) + (-1)) + (-1))) &&& 1)))), .second, (.val (.int (((((((((0 + 1) + 1) + 1) + 1) + 1) + 1) + 1) + 1) + 1))), (.val (.int (0))), (.val (.int (1 + (((0 + (((XT.ushrL (Int64.ofNat t2.1) (((3 - 1) + (-1)) + (-1))) &&& 1).toInt32)) + (((XT.ushrL (Int64.ofNat t3.1) (((3 - 1) + (-1)) + (-1))) &&& 1).toInt32)) + (((XT.ushrL (Int64.ofNat t1.1) (((3 - 1) + (-1)) + (-1))) &&& 1).toInt32))))), (.val (.int ((((3 - 1) + (-1)) + (-1)) + (-1)))), (.val (.int (((0 + (((XT.ushrL (Int64.ofNat t2.1) (((3 - 1) + (-1)) + (-1))) &&& 1).toInt32)) + (((XT.ushrL (Int64.ofNat t3.1) (((3 - 1) + (-1)) + (-1))) &&& 1).toInt32)) + (((XT.ushrL (Int64.ofNat t1.1) (((3 - 1) + (-1)) + (-1))) &&& 1).toInt32)))), (.val (.int (0 + 1))), (.val (.int (((0 + 1) + 1) + 1))), (.val (.long ((XT.ushrL (Int64.ofNat t1.1) (((3 - 1) + (-1)) + (-1))) &&& 1))), .second] [] [.inl ("com/example/reshelve/reshelve/service/sort/ZCurve", [(("com/example/reshelve/reshelve/service/sort/ZCurve", "dimensions", "I"), (.int (3))), (("com/example/reshelve/reshelve/service/sort/ZCurve", "bits", "I"), (.int (3))), (("com/example/reshelve/reshelve/service/sort/ZCurve", "words", "I"), (.int (1)))]), .inr (.long, [(.long (Int64.ofNat t1.1)), (.long (Int64.ofNat t2.1)), (.long (Int64.ofNat t3.1))]), .inr (.long, [(.long (0))])] _ _ _
        refine W.goto d3_152 ?_
        refine W.iload d3_26 rfl ?_
        refine W.if_lt d3_28 (fun h28 => ?_) (fun h => False.elim (by revert h; decide))
        refine W.iload d3_155 rfl ?_
        refine W.if_le d3_157 (fun h => False.elim (by revert h; decide)) (fun h157 => ?_)
        refine W.aloadN d3_160 rfl rfl ?_
        refine W.iload d3_161 rfl ?_
        refine W.lloadN d3_163 rfl ?_
        refine W.bipush 64 d3_164 rfl ?_
        refine W.iload d3_166 rfl ?_
        refine W.isub d3_168 ?_
        refine W.lshl d3_169 ?_
        refine W.lastore (i := 0) d3_170 rfl ⟨by decide, by decide⟩ (by simp) ?_
        refine W.aloadN d3_171 rfl rfl ?_
        exact W.areturn d3_172 rfl rfl rfl (by decide) (by decide) (⟨rfl, by rw [own_k7 t1 t2 t3 q0 q1] <;> rfl⟩)
      · refine W.iload d3_140 rfl ?_
        refine W.aloadN d3_142 rfl rfl ?_
        refine W.getfield 0 d3_143 (hw _ (wd 10 rfl)) rfl rfl ?_
        refine W.isub d3_146 ?_
        refine W.istore d3_147 rfl ?_
        show WB _ l Z n m3 149 [(.val (.ref 0)), (.val (.ref 1)), (.val (.ref 2)), (.val (.long (((((((((((((((((((0 : Int64) <<< ((1 : Int32) &&& 0x3f).toInt64) ||| ((XT.ushrL (Int64.ofNat t1.1) (3 - 1)) &&& 1)) <<< ((1 : Int32) &&& 0x3f).toInt64) ||| ((XT.ushrL (Int64.ofNat t2.1) (3 - 1)) &&& 1)) <<< ((1 : Int32) &&& 0x3f).toInt64) ||| ((XT.ushrL (Int64.ofNat t3.1) (3 - 1)) &&& 1)) <<< ((1 : Int32) &&& 0x3f).toInt64) ||| ((XT.ushrL (Int64.ofNat t2.1) ((3 - 1) + (-1))) &&& 1)) <<< ((1 : Int32) &&& 0x3f).toInt64) ||| ((XT.ushrL (Int64.ofNat t3.1) ((3 - 1) + (-1))) &&& 1)) <<< ((1 : Int32) &&& 0x3f).toInt64) ||| ((XT.ushrL (Int64.ofNat t1.1) ((3 - 1) + (-1))) &&& 1)) <<< ((1 : Int32) &&& 0x3f).toInt64) ||| ((XT.ushrL (Int64.ofNat t2.1) (((3 - 1) + (-1)) + (-1))) &&& 1)) <<< ((1 : Int32) &&& 0x3f).toInt64) ||| ((XT.ushrL (Int64.ofNat t3.1) (((3 - 1) + (-1)) + (-1))) &&& 1)) <<< ((1 : Int32) &&& 0x3f).toInt64) ||| ((XT.ushrL (Int64.ofNat t1.1) (((3 - 1) + (-1)) + (-1))) &&& 1)))), .second, (.val (.int (((((((((0 + 1) + 1) + 1) + 1) + 1) + 1) + 1) + 1) + 1))), (.val (.int (0))), (.val (.int ((1 + (((0 + (((XT.ushrL (Int64.ofNat t2.1) (((3 - 1) + (-1)) + (-1))) &&& 1).toInt32)) + (((XT.ushrL (Int64.ofNat t3.1) (((3 - 1) + (-1)) + (-1))) &&& 1).toInt32)) + (((XT.ushrL (Int64.ofNat t1.1) (((3 - 1) + (-1)) + (-1))) &&& 1).toInt32))) - 3))), (.val (.int (((3 - 1) + (-1)) + (-1)))), (.val (.int (((0 + (((XT.ushrL (Int64.ofNat t2.1) (((3 - 1) + (-1)) + (-1))) &&& 1).toInt32)) + (((XT.ushrL (Int64.ofNat t3.1) (((3 - 1) + (-1)) + (-1))) &&& 1).toInt32)) + (((XT.ushrL (Int64.ofNat t1.1) (((3 - 1) + (-1)) + (-1))) &&& 1).toInt32)))), (.val (.int (0 + 1))), (.val (.int (((0 + 1) + 1) + 1))), (.val (.long ((XT.ushrL (Int64.ofNat t1.1) (((3 - 1) + (-1)) + (-1))) &&& 1))), .second] [] [.inl ("com/example/reshelve/reshelve/service/sort/ZCurve", [(("com/example/reshelve/reshelve/service/sort/ZCurve", "dimensions", "I"), (.int (3))), (("com/example/reshelve/reshelve/service/sort/ZCurve", "bits", "I"), (.int (3))), (("com/example/reshelve/reshelve/service/sort/ZCurve", "words", "I"), (.int (1)))]), .inr (.long, [(.long (Int64.ofNat t1.1)), (.long (Int64.ofNat t2.1)), (.long (Int64.ofNat t3.1))]), .inr (.long, [(.long (0))])] _ _ _
        refine W.iinc (-1) d3_149 rfl rfl ?_
        refine W.goto d3_152 ?_
        refine W.iload d3_26 rfl ?_
        refine W.if_lt d3_28 (fun h28 => ?_) (fun h => False.elim (by revert h; decide))
        refine W.iload d3_155 rfl ?_
        refine W.if_le d3_157 (fun h => False.elim (by revert h; decide)) (fun h157 => ?_)
        refine W.aloadN d3_160 rfl rfl ?_
        refine W.iload d3_161 rfl ?_
        refine W.lloadN d3_163 rfl ?_
        refine W.bipush 64 d3_164 rfl ?_
        refine W.iload d3_166 rfl ?_
        refine W.isub d3_168 ?_
        refine W.lshl d3_169 ?_
        refine W.lastore (i := 0) d3_170 rfl ⟨by decide, by decide⟩ (by simp) ?_
        refine W.aloadN d3_171 rfl rfl ?_
        exact W.areturn d3_172 rfl rfl rfl (by decide) (by decide) (⟨rfl, by rw [own_k7 t1 t2 t3 q0 q1] <;> rfl⟩)
    · rw [q1]
      refine W.istore d3_129 rfl ?_
      show WB _ l Z n m3 131 [(.val (.ref 0)), (.val (.ref 1)), (.val (.ref 2)), (.val (.long (((((((((((((0 : Int64) <<< ((1 : Int32) &&& 0x3f).toInt64) ||| ((XT.ushrL (Int64.ofNat t1.1) (3 - 1)) &&& 1)) <<< ((1 : Int32) &&& 0x3f).toInt64) ||| ((XT.ushrL (Int64.ofNat t2.1) (3 - 1)) &&& 1)) <<< ((1 : Int32) &&& 0x3f).toInt64) ||| ((XT.ushrL (Int64.ofNat t3.1) (3 - 1)) &&& 1)) <<< ((1 : Int32) &&& 0x3f).toInt64) ||| ((XT.ushrL (Int64.ofNat t2.1) ((3 - 1) + (-1))) &&& 1)) <<< ((1 : Int32) &&& 0x3f).toInt64) ||| ((XT.ushrL (Int64.ofNat t3.1) ((3 - 1) + (-1))) &&& 1)) <<< ((1 : Int32) &&& 0x3f).toInt64) ||| ((XT.ushrL (Int64.ofNat t1.1) ((3 - 1) + (-1))) &&& 1)))), .second, (.val (.int ((((((0 + 1) + 1) + 1) + 1) + 1) + 1))), (.val (.int (0))), (.val (.int (2))), (.val (.int ((3 - 1) + (-1)))), (.val (.int (((0 + (((XT.ushrL (Int64.ofNat t2.1) ((3 - 1) + (-1))) &&& 1).toInt32)) + (((XT.ushrL (Int64.ofNat t3.1) ((3 - 1) + (-1))) &&& 1).toInt32)) + (((XT.ushrL (Int64.ofNat t1.1) ((3 - 1) + (-1))) &&& 1).toInt32)))), (.val (.int (0 + 1))), (.val (.int (((0 + 1) + 1) + 1))), (.val (.long ((XT.ushrL (Int64.ofNat t1.1) ((3 - 1) + (-1))) &&& 1))), .second] [] [.inl ("com/example/reshelve/reshelve/service/sort/ZCurve", [(("com/example/reshelve/reshelve/service/sort/ZCurve", "dimensions", "I"), (.int (3))), (("com/example/reshelve/reshelve/service/sort/ZCurve", "bits", "I"), (.int (3))), (("com/example/reshelve/reshelve/service/sort/ZCurve", "words", "I"), (.int (1)))]), .inr (.long, [(.long (Int64.ofNat t1.1)), (.long (Int64.ofNat t2.1)), (.long (Int64.ofNat t3.1))]), .inr (.long, [(.long (0))])] _ _ _
      refine W.iload d3_131 rfl ?_
      refine W.aloadN d3_133 rfl rfl ?_
      refine W.getfield 0 d3_134 (hw _ (wd 10 rfl)) rfl rfl ?_
      refine W.icmp_lt d3_137 (fun h137 => ?_) (fun h => False.elim (by revert h; decide))
      refine W.iinc (-1) d3_149 rfl rfl ?_
      refine W.goto d3_152 ?_
      refine W.iload d3_26 rfl ?_
      refine W.if_lt d3_28 (fun h => False.elim (by revert h; decide)) (fun h28 => ?_)
      refine W.iconst 0 d3_31 rfl ?_
      refine W.istore d3_32 rfl ?_
      refine W.iload d3_34 rfl ?_
      refine W.istore d3_36 rfl ?_
      refine W.iconst 0 d3_38 rfl ?_
      refine W.istore d3_39 rfl ?_
      show W l Z n m3 41 [(.val (.ref 0)), (.val (.ref 1)), (.val (.ref 2)), (.val (.long (((((((((((((0 : Int64) <<< ((1 : Int32) &&& 0x3f).toInt64) ||| ((XT.ushrL (Int64.ofNat t1.1) (3 - 1)) &&& 1)) <<< ((1 : Int32) &&& 0x3f).toInt64) ||| ((XT.ushrL (Int64.ofNat t2.1) (3 - 1)) &&& 1)) <<< ((1 : Int32) &&& 0x3f).toInt64) ||| ((XT.ushrL (Int64.ofNat t3.1) (3 - 1)) &&& 1)) <<< ((1 : Int32) &&& 0x3f).toInt64) ||| ((XT.ushrL (Int64.ofNat t2.1) ((3 - 1) + (-1))) &&& 1)) <<< ((1 : Int32) &&& 0x3f).toInt64) ||| ((XT.ushrL (Int64.ofNat t3.1) ((3 - 1) + (-1))) &&& 1)) <<< ((1 : Int32) &&& 0x3f).toInt64) ||| ((XT.ushrL (Int64.ofNat t1.1) ((3 - 1) + (-1))) &&& 1)))), .second, (.val (.int ((((((0 + 1) + 1) + 1) + 1) + 1) + 1))), (.val (.int (0))), (.val (.int (2))), (.val (.int (((3 - 1) + (-1)) + (-1)))), (.val (.int (0))), (.val (.int (2))), (.val (.int (0))), (.val (.long ((XT.ushrL (Int64.ofNat t1.1) ((3 - 1) + (-1))) &&& 1))), .second] [] [.inl ("com/example/reshelve/reshelve/service/sort/ZCurve", [(("com/example/reshelve/reshelve/service/sort/ZCurve", "dimensions", "I"), (.int (3))), (("com/example/reshelve/reshelve/service/sort/ZCurve", "bits", "I"), (.int (3))), (("com/example/reshelve/reshelve/service/sort/ZCurve", "words", "I"), (.int (1)))]), .inr (.long, [(.long (Int64.ofNat t1.1)), (.long (Int64.ofNat t2.1)), (.long (Int64.ofNat t3.1))]), .inr (.long, [(.long (0))])] _ _ _
      show WB _ l Z n m3 41 [(.val (.ref 0)), (.val (.ref 1)), (.val (.ref 2)), (.val (.long (((((((((((((0 : Int64) <<< ((1 : Int32) &&& 0x3f).toInt64) ||| ((XT.ushrL (Int64.ofNat t1.1) (3 - 1)) &&& 1)) <<< ((1 : Int32) &&& 0x3f).toInt64) ||| ((XT.ushrL (Int64.ofNat t2.1) (3 - 1)) &&& 1)) <<< ((1 : Int32) &&& 0x3f).toInt64) ||| ((XT.ushrL (Int64.ofNat t3.1) (3 - 1)) &&& 1)) <<< ((1 : Int32) &&& 0x3f).toInt64) ||| ((XT.ushrL (Int64.ofNat t2.1) ((3 - 1) + (-1))) &&& 1)) <<< ((1 : Int32) &&& 0x3f).toInt64) ||| ((XT.ushrL (Int64.ofNat t3.1) ((3 - 1) + (-1))) &&& 1)) <<< ((1 : Int32) &&& 0x3f).toInt64) ||| ((XT.ushrL (Int64.ofNat t1.1) ((3 - 1) + (-1))) &&& 1)))), .second, (.val (.int ((((((0 + 1) + 1) + 1) + 1) + 1) + 1))), (.val (.int (0))), (.val (.int (2))), (.val (.int (((3 - 1) + (-1)) + (-1)))), (.val (.int (0))), (.val (.int (2))), (.val (.int (0))), (.val (.long ((XT.ushrL (Int64.ofNat t1.1) ((3 - 1) + (-1))) &&& 1))), .second] [] [.inl ("com/example/reshelve/reshelve/service/sort/ZCurve", [(("com/example/reshelve/reshelve/service/sort/ZCurve", "dimensions", "I"), (.int (3))), (("com/example/reshelve/reshelve/service/sort/ZCurve", "bits", "I"), (.int (3))), (("com/example/reshelve/reshelve/service/sort/ZCurve", "words", "I"), (.int (1)))]), .inr (.long, [(.long (Int64.ofNat t1.1)), (.long (Int64.ofNat t2.1)), (.long (Int64.ofNat t3.1))]), .inr (.long, [(.long (0))])] _ _ _
      refine W.iload d3_41 rfl ?_
      refine W.aloadN d3_43 rfl rfl ?_
      refine W.getfield 0 d3_44 (hw _ (wd 10 rfl)) rfl rfl ?_
      refine W.icmp_ge d3_47 (fun h => False.elim (by revert h; decide)) (fun h47 => ?_)
      refine W.aloadN d3_50 rfl rfl ?_
      refine W.iload d3_51 rfl ?_
      refine W.laload (i := 2) d3_53 rfl ⟨by decide, by decide⟩ rfl ?_
      refine W.iload d3_54 rfl ?_
      refine W.lushr d3_56 ?_
      refine W.lconst 1 d3_57 rfl ?_
      refine W.land d3_58 ?_
      refine W.lstore d3_59 rfl ?_
      refine W.lloadN d3_61 rfl ?_
      refine W.iconst 1 d3_62 rfl ?_
      refine W.lshl d3_63 ?_
      refine W.lload d3_64 rfl ?_
      refine W.lor d3_66 ?_
      refine W.lstoreN d3_67 rfl ?_
      refine W.iinc 1 d3_68 rfl rfl ?_
      refine W.iload d3_71 rfl ?_
      refine W.bipush 64 d3_73 rfl ?_
      refine W.icmp_ne d3_75 (fun h75 => ?_) (fun h => False.elim (by revert h; decide))
      refine W.iload d3_89 rfl ?_
      refine W.lload d3_91 rfl ?_
      refine W.l2i d3_93 ?_
      refine W.iadd d3_94 ?_
      refine W.istore d3_95 rfl ?_
      show WB _ l Z n m3 97 [(.val (.ref 0)), (.val (.ref 1)), (.val (.ref 2)), (.val (.long (((((((((((((((0 : Int64) <<< ((1 : Int32) &&& 0x3f).toInt64) ||| ((XT.ushrL (Int64.ofNat t1.1) (3 - 1)) &&& 1)) <<< ((1 : Int32) &&& 0x3f).toInt64) ||| ((XT.ushrL (Int64.ofNat t2.1) (3 - 1)) &&& 1)) <<< ((1 : Int32) &&& 0x3f).toInt64) ||| ((XT.ushrL (Int64.ofNat t3.1) (3 - 1)) &&& 1)) <<< ((1 : Int32) &&& 0x3f).toInt64) ||| ((XT.ushrL (Int64.ofNat t2.1) ((3 - 1) + (-1))) &&& 1)) <<< ((1 : Int32) &&& 0x3f).toInt64) ||| ((XT.ushrL (Int64.ofNat t3.1) ((3 - 1) + (-1))) &&& 1)) <<< ((1 : Int32) &&& 0x3f).toInt64) ||| ((XT.ushrL (Int64.ofNat t1.1) ((3 - 1) + (-1))) &&& 1)) <<< ((1 : Int32) &&& 0x3f).toInt64) ||| ((XT.ushrL (Int64.ofNat t3.1) (((3 - 1) + (-1)) + (-1))) &&& 1)))), .second, (.val (.int (((((((0 + 1) + 1) + 1) + 1) + 1) + 1) + 1))), (.val (.int (0))), (.val (.int (2))), (.val (.int (((3 - 1) + (-1)) + (-1)))), (.val (.int (0 + (((XT.ushrL (Int64.ofNat t3.1) (((3 - 1) + (-1)) + (-1))) &&& 1).toInt32)))), (.val (.int (2))), (.val (.int (0))), (.val (.long ((XT.ushrL (Int64.ofNat t3.1) (((3 - 1) + (-1)) + (-1))) &&& 1))), .second] [] [.inl ("com/example/reshelve/reshelve/service/sort/ZCurve", [(("com/example/reshelve/reshelve/service/sort/ZCurve", "dimensions", "I"), (.int (3))), (("com/example/reshelve/reshelve/service/sort/ZCurve", "bits", "I"), (.int (3))), (("com/example/reshelve/reshelve/service/sort/ZCurve", "words", "I"), (.int (1)))]), .inr (.long, [(.long (Int64.ofNat t1.1)), (.long (Int64.ofNat t2.1)), (.long (Int64.ofNat t3.1))]), .inr (.long, [(.long (0))])] _ _ _
      refine W.iload d3_97 rfl ?_
      refine W.iconst 1 d3_99 rfl ?_
      refine W.iadd d3_100 ?_
      refine W.aloadN d3_101 rfl rfl ?_
      refine W.getfield 0 d3_102 (hw _ (wd 10 rfl)) rfl rfl ?_
      refine W.icmp_ne d3_105 (fun h => False.elim (by revert h; decide)) (fun h105 => ?_)
      refine W.iconst 0 d3_108 rfl ?_
      refine W.goto d3_109 ?_
      refine W.istore d3_116 rfl ?_
      refine W.iinc 1 d3_118 rfl rfl ?_
      refine W.goto d3_121 ?_
      show W l Z n m3 41 [(.val (.ref 0)), (.val (.ref 1)), (.val (.ref 2)), (.val (.long (((((((((((((((0 : Int64) <<< ((1 : Int32) &&& 0x3f).toInt64) ||| ((XT.ushrL (Int64.ofNat t1.1) (3 - 1)) &&& 1)) <<< ((1 : Int32) &&& 0x3f).toInt64) ||| ((XT.ushrL (Int64.ofNat t2.1) (3 - 1)) &&& 1)) <<< ((1 : Int32) &&& 0x3f).toInt64) ||| ((XT.ushrL (Int64.ofNat t3.1) (3 - 1)) &&& 1)) <<< ((1 : Int32) &&& 0x3f).toInt64) ||| ((XT.ushrL (Int64.ofNat t2.1) ((3 - 1) + (-1))) &&& 1)) <<< ((1 : Int32) &&& 0x3f).toInt64) ||| ((XT.ushrL (Int64.ofNat t3.1) ((3 - 1) + (-1))) &&& 1)) <<< ((1 : Int32) &&& 0x3f).toInt64) ||| ((XT.ushrL (Int64.ofNat t1.1) ((3 - 1) + (-1))) &&& 1)) <<< ((1 : Int32) &&& 0x3f).toInt64) ||| ((XT.ushrL (Int64.ofNat t3.1) (((3 - 1) + (-1)) + (-1))) &&& 1)))), .second, (.val (.int (((((((0 + 1) + 1) + 1) + 1) + 1) + 1) + 1))), (.val (.int (0))), (.val (.int (2))), (.val (.int (((3 - 1) + (-1)) + (-1)))), (.val (.int (0 + (((XT.ushrL (Int64.ofNat t3.1) (((3 - 1) + (-1)) + (-1))) &&& 1).toInt32)))), (.val (.int (0))), (.val (.int (0 + 1))), (.val (.long ((XT.ushrL (Int64.ofNat t3.1) (((3 - 1) + (-1)) + (-1))) &&& 1))), .second] [] [.inl ("com/example/reshelve/reshelve/service/sort/ZCurve", [(("com/example/reshelve/reshelve/service/sort/ZCurve", "dimensions", "I"), (.int (3))), (("com/example/reshelve/reshelve/service/sort/ZCurve", "bits", "I"), (.int (3))), (("com/example/reshelve/reshelve/service/sort/ZCurve", "words", "I"), (.int (1)))]), .inr (.long, [(.long (Int64.ofNat t1.1)), (.long (Int64.ofNat t2.1)), (.long (Int64.ofNat t3.1))]), .inr (.long, [(.long (0))])] _ _ _
      refine W.iload d3_41 rfl ?_
      refine W.aloadN d3_43 rfl rfl ?_
      refine W.getfield 0 d3_44 (hw _ (wd 10 rfl)) rfl rfl ?_
      refine W.icmp_ge d3_47 (fun h => False.elim (by revert h; decide)) (fun h47 => ?_)
      refine W.aloadN d3_50 rfl rfl ?_
      refine W.iload d3_51 rfl ?_
      refine W.laload (i := 0) d3_53 rfl ⟨by decide, by decide⟩ rfl ?_
      refine W.iload d3_54 rfl ?_
      refine W.lushr d3_56 ?_
      refine W.lconst 1 d3_57 rfl ?_
      refine W.land d3_58 ?_
      refine W.lstore d3_59 rfl ?_
      refine W.lloadN d3_61 rfl ?_
      refine W.iconst 1 d3_62 rfl ?_
      refine W.lshl d3_63 ?_
      refine W.lload d3_64 rfl ?_
      refine W.lor d3_66 ?_
      refine W.lstoreN d3_67 rfl ?_
      show WB _ l Z n m3 68 [(.val (.ref 0)), (.val (.ref 1)), (.val (.ref 2)), (.val (.long (((((((((((((((((0 : Int64) <<< ((1 : Int32) &&& 0x3f).toInt64) ||| ((XT.ushrL (Int64.ofNat t1.1) (3 - 1)) &&& 1)) <<< ((1 : Int32) &&& 0x3f).toInt64) ||| ((XT.ushrL (Int64.ofNat t2.1) (3 - 1)) &&& 1)) <<< ((1 : Int32) &&& 0x3f).toInt64) ||| ((XT.ushrL (Int64.ofNat t3.1) (3 - 1)) &&& 1)) <<< ((1 : Int32) &&& 0x3f).toInt64) ||| ((XT.ushrL (Int64.ofNat t2.1) ((3 - 1) + (-1))) &&& 1)) <<< ((1 : Int32) &&& 0x3f).toInt64) ||| ((XT.ushrL (Int64.ofNat t3.1) ((3 - 1) + (-1))) &&& 1)) <<< ((1 : Int32) &&& 0x3f).toInt64) ||| ((XT.ushrL (Int64.ofNat t1.1) ((3 - 1) + (-1))) &&& 1)) <<< ((1 : Int32) &&& 0x3f).toInt64) ||| ((XT.ushrL (Int64.ofNat t3.1) (((3 - 1) + (-1)) + (-1))) &&& 1)) <<< ((1 : Int32) &&& 0x3f).toInt64) ||| ((XT.ushrL (Int64.ofNat t1.1) (((3 - 1) + (-1)) + (-1))) &&& 1)))), .second, (.val (.int (((((((0 + 1) + 1) + 1) + 1) + 1) + 1) + 1))), (.val (.int (0))), (.val (.int (2))), (.val (.int (((3 - 1) + (-1)) + (-1)))), (.val (.int (0 + (((XT.ushrL (Int64.ofNat t3.1) (((3 - 1) + (-1)) + (-1))) &&& 1).toInt32)))), (.val (.int (0))), (.val (.int (0 + 1))), (.val (.long ((XT.ushrL (Int64.ofNat t1.1) (((3 - 1) + (-1)) + (-1))) &&& 1))), .second] [] [.inl ("com/example/reshelve/reshelve/service/sort/ZCurve", [(("com/example/reshelve/reshelve/service/sort/ZCurve", "dimensions", "I"), (.int (3))), (("com/example/reshelve/reshelve/service/sort/ZCurve", "bits", "I"), (.int (3))), (("com/example/reshelve/reshelve/service/sort/ZCurve", "words", "I"), (.int (1)))]), .inr (.long, [(.long (Int64.ofNat t1.1)), (.long (Int64.ofNat t2.1)), (.long (Int64.ofNat t3.1))]), .inr (.long, [(.long (0))])] _ _ _
      refine W.iinc 1 d3_68 rfl rfl ?_
      refine W.iload d3_71 rfl ?_
      refine W.bipush 64 d3_73 rfl ?_
      refine W.icmp_ne d3_75 (fun h75 => ?_) (fun h => False.elim (by revert h; decide))
      refine W.iload d3_89 rfl ?_
      refine W.lload d3_91 rfl ?_
      refine W.l2i d3_93 ?_
      refine W.iadd d3_94 ?_
      refine W.istore d3_95 rfl ?_
      refine W.iload d3_97 rfl ?_
      refine W.iconst 1 d3_99 rfl ?_
      refine W.iadd d3_100 ?_
      refine W.aloadN d3_101 rfl rfl ?_
      refine W.getfield 0 d3_102 (hw _ (wd 10 rfl)) rfl rfl ?_
      refine W.icmp_ne d3_105 (fun h105 => ?_) (fun h => False.elim (by revert h; decide))
      refine W.iload d3_112 rfl ?_
      refine W.iconst 1 d3_114 rfl ?_
      refine W.iadd d3_115 ?_
      refine W.istore d3_116 rfl ?_
      refine W.iinc 1 d3_118 rfl rfl ?_
      show WB _ l Z n m3 121 [(.val (.ref 0)), (.val (.ref 1)), (.val (.ref 2)), (.val (.long (((((((((((((((((0 : Int64) <<< ((1 : Int32) &&& 0x3f).toInt64) ||| ((XT.ushrL (Int64.ofNat t1.1) (3 - 1)) &&& 1)) <<< ((1 : Int32) &&& 0x3f).toInt64) ||| ((XT.ushrL (Int64.ofNat t2.1) (3 - 1)) &&& 1)) <<< ((1 : Int32) &&& 0x3f).toInt64) ||| ((XT.ushrL (Int64.ofNat t3.1) (3 - 1)) &&& 1)) <<< ((1 : Int32) &&& 0x3f).toInt64) ||| ((XT.ushrL (Int64.ofNat t2.1) ((3 - 1) + (-1))) &&& 1)) <<< ((1 : Int32) &&& 0x3f).toInt64) ||| ((XT.ushrL (Int64.ofNat t3.1) ((3 - 1) + (-1))) &&& 1)) <<< ((1 : Int32) &&& 0x3f).toInt64) ||| ((XT.ushrL (Int64.ofNat t1.1) ((3 - 1) + (-1))) &&& 1)) <<< ((1 : Int32) &&& 0x3f).toInt64) ||| ((XT.ushrL (Int64.ofNat t3.1) (((3 - 1) + (-1)) + (-1))) &&& 1)) <<< ((1 : Int32) &&& 0x3f).toInt64) ||| ((XT.ushrL (Int64.ofNat t1.1) (((3 - 1) + (-1)) + (-1))) &&& 1)))), .second, (.val (.int ((((((((0 + 1) + 1) + 1) + 1) + 1) + 1) + 1) + 1))), (.val (.int (0))), (.val (.int (2))), (.val (.int (((3 - 1) + (-1)) + (-1)))), (.val (.int ((0 + (((XT.ushrL (Int64.ofNat t3.1) (((3 - 1) + (-1)) + (-1))) &&& 1).toInt32)) + (((XT.ushrL (Int64.ofNat t1.1) (((3 - 1) + (-1)) + (-1))) &&& 1).toInt32)))), (.val (.int (0 + 1))), (.val (.int ((0 + 1) + 1))), (.val (.long ((XT.ushrL (Int64.ofNat t1.1) (((3 - 1) + (-1)) + (-1))) &&& 1))), .second] [] [.inl ("com/example/reshelve/reshelve/service/sort/ZCurve", [(("com/example/reshelve/reshelve/service/sort/ZCurve", "dimensions", "I"), (.int (3))), (("com/example/reshelve/reshelve/service/sort/ZCurve", "bits", "I"), (.int (3))), (("com/example/reshelve/reshelve/service/sort/ZCurve", "words", "I"), (.int (1)))]), .inr (.long, [(.long (Int64.ofNat t1.1)), (.long (Int64.ofNat t2.1)), (.long (Int64.ofNat t3.1))]), .inr (.long, [(.long (0))])] _ _ _
      refine W.goto d3_121 ?_
      show W l Z n m3 41 [(.val (.ref 0)), (.val (.ref 1)), (.val (.ref 2)), (.val (.long (((((((((((((((((0 : Int64) <<< ((1 : Int32) &&& 0x3f).toInt64) ||| ((XT.ushrL (Int64.ofNat t1.1) (3 - 1)) &&& 1)) <<< ((1 : Int32) &&& 0x3f).toInt64) ||| ((XT.ushrL (Int64.ofNat t2.1) (3 - 1)) &&& 1)) <<< ((1 : Int32) &&& 0x3f).toInt64) ||| ((XT.ushrL (Int64.ofNat t3.1) (3 - 1)) &&& 1)) <<< ((1 : Int32) &&& 0x3f).toInt64) ||| ((XT.ushrL (Int64.ofNat t2.1) ((3 - 1) + (-1))) &&& 1)) <<< ((1 : Int32) &&& 0x3f).toInt64) ||| ((XT.ushrL (Int64.ofNat t3.1) ((3 - 1) + (-1))) &&& 1)) <<< ((1 : Int32) &&& 0x3f).toInt64) ||| ((XT.ushrL (Int64.ofNat t1.1) ((3 - 1) + (-1))) &&& 1)) <<< ((1 : Int32) &&& 0x3f).toInt64) ||| ((XT.ushrL (Int64.ofNat t3.1) (((3 - 1) + (-1)) + (-1))) &&& 1)) <<< ((1 : Int32) &&& 0x3f).toInt64) ||| ((XT.ushrL (Int64.ofNat t1.1) (((3 - 1) + (-1)) + (-1))) &&& 1)))), .second, (.val (.int ((((((((0 + 1) + 1) + 1) + 1) + 1) + 1) + 1) + 1))), (.val (.int (0))), (.val (.int (2))), (.val (.int (((3 - 1) + (-1)) + (-1)))), (.val (.int ((0 + (((XT.ushrL (Int64.ofNat t3.1) (((3 - 1) + (-1)) + (-1))) &&& 1).toInt32)) + (((XT.ushrL (Int64.ofNat t1.1) (((3 - 1) + (-1)) + (-1))) &&& 1).toInt32)))), (.val (.int (0 + 1))), (.val (.int ((0 + 1) + 1))), (.val (.long ((XT.ushrL (Int64.ofNat t1.1) (((3 - 1) + (-1)) + (-1))) &&& 1))), .second] [] [.inl ("com/example/reshelve/reshelve/service/sort/ZCurve", [(("com/example/reshelve/reshelve/service/sort/ZCurve", "dimensions", "I"), (.int (3))), (("com/example/reshelve/reshelve/service/sort/ZCurve", "bits", "I"), (.int (3))), (("com/example/reshelve/reshelve/service/sort/ZCurve", "words", "I"), (.int (1)))]), .inr (.long, [(.long (Int64.ofNat t1.1)), (.long (Int64.ofNat t2.1)), (.long (Int64.ofNat t3.1))]), .inr (.long, [(.long (0))])] _ _ _
      refine W.iload d3_41 rfl ?_
      refine W.aloadN d3_43 rfl rfl ?_
      refine W.getfield 0 d3_44 (hw _ (wd 10 rfl)) rfl rfl ?_
      refine W.icmp_ge d3_47 (fun h => False.elim (by revert h; decide)) (fun h47 => ?_)
      refine W.aloadN d3_50 rfl rfl ?_
      refine W.iload d3_51 rfl ?_
      refine W.laload (i := 1) d3_53 rfl ⟨by decide, by decide⟩ rfl ?_
      refine W.iload d3_54 rfl ?_
      refine W.lushr d3_56 ?_
      refine W.lconst 1 d3_57 rfl ?_
      refine W.land d3_58 ?_
      refine W.lstore d3_59 rfl ?_
      refine W.lloadN d3_61 rfl ?_
      refine W.iconst 1 d3_62 rfl ?_
      refine W.lshl d3_63 ?_
      refine W.lload d3_64 rfl ?_
      refine W.lor d3_66 ?_
      refine W.lstoreN d3_67 rfl ?_
      refine W.iinc 1 d3_68 rfl rfl ?_
      refine W.iload d3_71 rfl ?_
      refine W.bipush 64 d3_73 rfl ?_
      refine W.icmp_ne d3_75 (fun h75 => ?_) (fun h => False.elim (by revert h; decide))
      refine W.iload d3_89 rfl ?_
      refine W.lload d3_91 rfl ?_
      refine W.l2i d3_93 ?_
      refine W.iadd d3_94 ?_
      refine W.istore d3_95 rfl ?_
      show WB _ l Z n m3 97 [(.val (.ref 0)), (.val (.ref 1)), (.val (.ref 2)), (.val (.long (((((((((((((((((((0 : Int64) <<< ((1 : Int32) &&& 0x3f).toInt64) ||| ((XT.ushrL (Int64.ofNat t1.1) (3 - 1)) &&& 1)) <<< ((1 : Int32) &&& 0x3f).toInt64) ||| ((XT.ushrL (Int64.ofNat t2.1) (3 - 1)) &&& 1)) <<< ((1 : Int32) &&& 0x3f).toInt64) ||| ((XT.ushrL (Int64.ofNat t3.1) (3 - 1)) &&& 1)) <<< ((1 : Int32) &&& 0x3f).toInt64) ||| ((XT.ushrL (Int64.ofNat t2.1) ((3 - 1) + (-1))) &&& 1)) <<< ((1 : Int32) &&& 0x3f).toInt64) ||| ((XT.ushrL (Int64.ofNat t3.1) ((3 - 1) + (-1))) &&& 1)) <<< ((1 : Int32) &&& 0x3f).toInt64) ||| ((XT.ushrL (Int64.ofNat t1.1) ((3 - 1) + (-1))) &&& 1)) <<< ((1 : Int32) &&& 0x3f).toInt64) ||| ((XT.ushrL (Int64.ofNat t3.1) (((3 - 1) + (-1)) + (-1))) &&& 1)) <<< ((1 : Int32) &&& 0x3f).toInt64) ||| ((XT.ushrL (Int64.ofNat t1.1) (((3 - 1) + (-1)) + (-1))) &&& 1)) <<< ((1 : Int32) &&& 0x3f).toInt64) ||| ((XT.ushrL (Int64.ofNat t2.1) (((3 - 1) + (-1)) + (-1))) &&& 1)))), .second, (.val (.int (((((((((0 + 1) + 1) + 1) + 1) + 1) + 1) + 1) + 1) + 1))), (.val (.int (0))), (.val (.int (2))), (.val (.int (((3 - 1) + (-1)) + (-1)))), (.val (.int (((0 + (((XT.ushrL (Int64.ofNat t3.1) (((3 - 1) + (-1)) + (-1))) &&& 1).toInt32)) + (((XT.ushrL (Int64.ofNat t1.1) (((3 - 1) + (-1)) + (-1))) &&& 1).toInt32)) + (((XT.ushrL (Int64.ofNat t2.1) (((3 - 1) + (-1)) + (-1))) &&& 1).toInt32)))), (.val (.int (0 + 1))), (.val (.int ((0 + 1) + 1))), (.val (.long ((XT.ushrL (Int64.ofNat t2.1) (((3 - 1) + (-1)) + (-1))) &&& 1))), .second] [] [.inl ("com/example/reshelve/reshelve/service/sort/ZCurve", [(("com/example/reshelve/reshelve/service/sort/ZCurve", "dimensions", "I"), (.int (3))), (("com/example/reshelve/reshelve/service/sort/ZCurve", "bits", "I"), (.int (3))), (("com/example/reshelve/reshelve/service/sort/ZCurve", "words", "I"), (.int (1)))]), .inr (.long, [(.long (Int64.ofNat t1.1)), (.long (Int64.ofNat t2.1)), (.long (Int64.ofNat t3.1))]), .inr (.long, [(.long (0))])] _ _ _
      refine W.iload d3_97 rfl ?_
      refine W.iconst 1 d3_99 rfl ?_
      refine W.iadd d3_100 ?_
      refine W.aloadN d3_101 rfl rfl ?_
      refine W.getfield 0 d3_102 (hw _ (wd 10 rfl)) rfl rfl ?_
      refine W.icmp_ne d3_105 (fun h105 => ?_) (fun h => False.elim (by revert h; decide))
      refine W.iload d3_112 rfl ?_
      refine W.iconst 1 d3_114 rfl ?_
      refine W.iadd d3_115 ?_
      refine W.istore d3_116 rfl ?_
      refine W.iinc 1 d3_118 rfl rfl ?_
      refine W.goto d3_121 ?_
      show W l Z n m3 41 [(.val (.ref 0)), (.val (.ref 1)), (.val (.ref 2)), (.val (.long (((((((((((((((((((0 : Int64) <<< ((1 : Int32) &&& 0x3f).toInt64) ||| ((XT.ushrL (Int64.ofNat t1.1) (3 - 1)) &&& 1)) <<< ((1 : Int32) &&& 0x3f).toInt64) ||| ((XT.ushrL (Int64.ofNat t2.1) (3 - 1)) &&& 1)) <<< ((1 : Int32) &&& 0x3f).toInt64) ||| ((XT.ushrL (Int64.ofNat t3.1) (3 - 1)) &&& 1)) <<< ((1 : Int32) &&& 0x3f).toInt64) ||| ((XT.ushrL (Int64.ofNat t2.1) ((3 - 1) + (-1))) &&& 1)) <<< ((1 : Int32) &&& 0x3f).toInt64) ||| ((XT.ushrL (Int64.ofNat t3.1) ((3 - 1) + (-1))) &&& 1)) <<< ((1 : Int32) &&& 0x3f).toInt64) ||| ((XT.ushrL (Int64.ofNat t1.1) ((3 - 1) + (-1))) &&& 1)) <<< ((1 : Int32) &&& 0x3f).toInt64) ||| ((XT.ushrL (Int64.ofNat t3.1) (((3 - 1) + (-1)) + (-1))) &&& 1)) <<< ((1 : Int32) &&& 0x3f).toInt64) ||| ((XT.ushrL (Int64.ofNat t1.1) (((3 - 1) + (-1)) + (-1))) &&& 1)) <<< ((1 : Int32) &&& 0x3f).toInt64) ||| ((XT.ushrL (Int64.ofNat t2.1) (((3 - 1) + (-1)) + (-1))) &&& 1)))), .second, (.val (.int (((((((((0 + 1) + 1) + 1) + 1) + 1) + 1) + 1) + 1) + 1))), (.val (.int (0))), (.val (.int (2))), (.val (.int (((3 - 1) + (-1)) + (-1)))), (.val (.int (((0 + (((XT.ushrL (Int64.ofNat t3.1) (((3 - 1) + (-1)) + (-1))) &&& 1).toInt32)) + (((XT.ushrL (Int64.ofNat t1.1) (((3 - 1) + (-1)) + (-1))) &&& 1).toInt32)) + (((XT.ushrL (Int64.ofNat t2.1) (((3 - 1) + (-1)) + (-1))) &&& 1).toInt32)))), (.val (.int ((0 + 1) + 1))), (.val (.int (((0 + 1) + 1) + 1))), (.val (.long ((XT.ushrL (Int64.ofNat t2.1) (((3 - 1) + (-1)) + (-1))) &&& 1))), .second] [] [.inl ("com/example/reshelve/reshelve/service/sort/ZCurve", [(("com/example/reshelve/reshelve/service/sort/ZCurve", "dimensions", "I"), (.int (3))), (("com/example/reshelve/reshelve/service/sort/ZCurve", "bits", "I"), (.int (3))), (("com/example/reshelve/reshelve/service/sort/ZCurve", "words", "I"), (.int (1)))]), .inr (.long, [(.long (Int64.ofNat t1.1)), (.long (Int64.ofNat t2.1)), (.long (Int64.ofNat t3.1))]), .inr (.long, [(.long (0))])] _ _ _
      refine W.iload d3_41 rfl ?_
      refine W.aloadN d3_43 rfl rfl ?_
      refine W.getfield 0 d3_44 (hw _ (wd 10 rfl)) rfl rfl ?_
      refine W.icmp_ge d3_47 (fun h47 => ?_) (fun h => False.elim (by revert h; decide))
      refine W.iload d3_124 rfl ?_
      refine W.iload d3_126 rfl ?_
      refine W.iadd d3_128 ?_
      refine W.istore d3_129 rfl ?_
      refine W.iload d3_131 rfl ?_
      refine W.aloadN d3_133 rfl rfl ?_
      refine W.getfield 0 d3_134 (hw _ (wd 10 rfl)) rfl rfl ?_
      refine W.icmp_lt d3_137 (fun h137 => ?_) (fun h137 => ?_)
      · refine W.iinc (-1) d3_149 rfl rfl ?_
        show WB _ l Z n m3 152 [(.val (.ref 0)), (.val (.ref 1)), (.val (.ref 2)), (.val (.long (((((((((((((((((((0 : Int64) <<< ((1 : Int32) &&& 0x3f).toInt64) ||| ((XT.ushrL (Int64.ofNat t1.1) (3 - 1)) &&& 1)) <<< ((1 : Int32) &&& 0x3f).toInt64) ||| ((XT.ushrL (Int64.ofNat t2.1) (3 - 1)) &&& 1)) <<< ((1 : Int32) &&& 0x3f).toInt64) ||| ((XT.ushrL (Int64.ofNat t3.1) (3 - 1)) &&& 1)) <<< ((1 : Int32) &&& 0x3f).toInt64) ||| ((XT.ushrL (Int64.ofNat t2.1) ((3 - 1) + (-1))) &&& 1)) <<< ((1 : Int32) &&& 0x3f).toInt64) ||| ((XT.ushrL (Int64.ofNat t3.1) ((3 - 1) + (-1))) &&& 1)) <<< ((1 : Int32) &&& 0x3f).toInt64) ||| ((XT.ushrL (Int64.ofNat t1.1) ((3 - 1) + (-1))) &&& 1)) <<< ((1 : Int32) &&& 0x3f).toInt64) ||| ((XT.ushrL (Int64.ofNat t3.1) (((3 - 1) + (-1)) + (-1))) &&& 1)) <<< ((1 : Int32) &&& 0x3f).toInt64) ||| ((XT.ushrL (Int64.ofNat t1.1) (((3 - 1) + (-1)) + (-1))) &&& 1)) <<< ((1 : Int32) &&& 0x3f).toInt64) ||| ((XT.ushrL (Int64.ofNat t2.1) (((3 - 1) + (-1)) + (-1))) &&& 1)))), .second, (.val (.int (((((((((0 + 1) + 1) + 1) + 1) + 1) + 1) + 1) + 1) + 1))), (.val (.int (0))), (.val (.int (2 + (((0 + (((XT.ushrL (Int64.ofNat t3.1) (((3 - 1) + (-1)) + (-1))) &&& 1).toInt32)) + (((XT.ushrL (Int64.ofNat t1.1) (((3 - 1) + (-1)) + (-1))) &&& 1).toInt32)) + (((XT.ushrL (Int64.ofNat t2.1) (((3 - 1) + (-1)) + (-1))) &&& 1).toInt32))))), (.val (.int ((((3 - 1) + (-1)) + (-1)) + (-1)))), (.val (.int (((0 + (((XT.ushrL (Int64.ofNat t3.1) (((3 - 1) + (-1)) + (-1))) &&& 1).toInt32)) + (((XT.ushrL (Int64.ofNat t1.1) (((3 - 1) + (-1)) + (-1))) &&& 1).toInt32)) + (((XT.ushrL (Int64.ofNat t2.1) (((3 - 1) + (-1)) + (-1))) &&& 1).toInt32)))), (.val (.int ((0 + 1) + 1))), (.val (.int (((0 + 1) + 1) + 1))), (.val (.long ((XT.ushrL (Int64.ofNat t2.1) (((3 - 1) + (-1)) + (-1))) &&& 1))), .second] [] [.inl ("com/example/reshelve/reshelve/service/sort/ZCurve", [(("com/example/reshelve/reshelve/service/sort/ZCurve", "dimensions", "I"), (.int (3))), (("com/example/reshelve/reshelve/service/sort/ZCurve", "bits", "I"), (.int (3))), (("com/example/reshelve/reshelve/service/sort/ZCurve", "words", "I"), (.int (1)))]), .inr (.long, [(.long (Int64.ofNat t1.1)), (.long (Int64.ofNat t2.1)), (.long (Int64.ofNat t3.1))]), .inr (.long, [(.long (0))])] _ _ _
        refine W.goto d3_152 ?_
        refine W.iload d3_26 rfl ?_
        refine W.if_lt d3_28 (fun h28 => ?_) (fun h => False.elim (by revert h; decide))
        refine W.iload d3_155 rfl ?_
        refine W.if_le d3_157 (fun h => False.elim (by revert h; decide)) (fun h157 => ?_)
        refine W.aloadN d3_160 rfl rfl ?_
        refine W.iload d3_161 rfl ?_
        refine W.lloadN d3_163 rfl ?_
        refine W.bipush 64 d3_164 rfl ?_
        refine W.iload d3_166 rfl ?_
        refine W.isub d3_168 ?_
        refine W.lshl d3_169 ?_
        refine W.lastore (i := 0) d3_170 rfl ⟨by decide, by decide⟩ (by simp) ?_
        refine W.aloadN d3_171 rfl rfl ?_
        exact W.areturn d3_172 rfl rfl rfl (by decide) (by decide) (⟨rfl, by rw [own_k8 t1 t2 t3 q0 q1] <;> rfl⟩)
      · refine W.iload d3_140 rfl ?_
        refine W.aloadN d3_142 rfl rfl ?_
        refine W.getfield 0 d3_143 (hw _ (wd 10 rfl)) rfl rfl ?_
        refine W.isub d3_146 ?_
        refine W.istore d3_147 rfl ?_
        show WB _ l Z n m3 149 [(.val (.ref 0)), (.val (.ref 1)), (.val (.ref 2)), (.val (.long (((((((((((((((((((0 : Int64) <<< ((1 : Int32) &&& 0x3f).toInt64) ||| ((XT.ushrL (Int64.ofNat t1.1) (3 - 1)) &&& 1)) <<< ((1 : Int32) &&& 0x3f).toInt64) ||| ((XT.ushrL (Int64.ofNat t2.1) (3 - 1)) &&& 1)) <<< ((1 : Int32) &&& 0x3f).toInt64) ||| ((XT.ushrL (Int64.ofNat t3.1) (3 - 1)) &&& 1)) <<< ((1 : Int32) &&& 0x3f).toInt64) ||| ((XT.ushrL (Int64.ofNat t2.1) ((3 - 1) + (-1))) &&& 1)) <<< ((1 : Int32) &&& 0x3f).toInt64) ||| ((XT.ushrL (Int64.ofNat t3.1) ((3 - 1) + (-1))) &&& 1)) <<< ((1 : Int32) &&& 0x3f).toInt64) ||| ((XT.ushrL (Int64.ofNat t1.1) ((3 - 1) + (-1))) &&& 1)) <<< ((1 : Int32) &&& 0x3f).toInt64) ||| ((XT.ushrL (Int64.ofNat t3.1) (((3 - 1) + (-1)) + (-1))) &&& 1)) <<< ((1 : Int32) &&& 0x3f).toInt64) ||| ((XT.ushrL (Int64.ofNat t1.1) (((3 - 1) + (-1)) + (-1))) &&& 1)) <<< ((1 : Int32) &&& 0x3f).toInt64) ||| ((XT.ushrL (Int64.ofNat t2.1) (((3 - 1) + (-1)) + (-1))) &&& 1)))), .second, (.val (.int (((((((((0 + 1) + 1) + 1) + 1) + 1) + 1) + 1) + 1) + 1))), (.val (.int (0))), (.val (.int ((2 + (((0 + (((XT.ushrL (Int64.ofNat t3.1) (((3 - 1) + (-1)) + (-1))) &&& 1).toInt32)) + (((XT.ushrL (Int64.ofNat t1.1) (((3 - 1) + (-1)) + (-1))) &&& 1).toInt32)) + (((XT.ushrL (Int64.ofNat t2.1) (((3 - 1) + (-1)) + (-1))) &&& 1).toInt32))) - 3))), (.val (.int (((3 - 1) + (-1)) + (-1)))), (.val (.int (((0 + (((XT.ushrL (Int64.ofNat t3.1) (((3 - 1) + (-1)) + (-1))) &&& 1).toInt32)) + (((XT.ushrL (Int64.ofNat t1.1) (((3 - 1) + (-1)) + (-1))) &&& 1).toInt32)) + (((XT.ushrL (Int64.ofNat t2.1) (((3 - 1) + (-1)) + (-1))) &&& 1).toInt32)))), (.val (.int ((0 + 1) + 1))), (.val (.int (((0 + 1) + 1) + 1))), (.val (.long ((XT.ushrL (Int64.ofNat t2.1) (((3 - 1) + (-1)) + (-1))) &&& 1))), .second] [] [.inl ("com/example/reshelve/reshelve/service/sort/ZCurve", [(("com/example/reshelve/reshelve/service/sort/ZCurve", "dimensions", "I"), (.int (3))), (("com/example/reshelve/reshelve/service/sort/ZCurve", "bits", "I"), (.int (3))), (("com/example/reshelve/reshelve/service/sort/ZCurve", "words", "I"), (.int (1)))]), .inr (.long, [(.long (Int64.ofNat t1.1)), (.long (Int64.ofNat t2.1)), (.long (Int64.ofNat t3.1))]), .inr (.long, [(.long (0))])] _ _ _
        refine W.iinc (-1) d3_149 rfl rfl ?_
        refine W.goto d3_152 ?_
        refine W.iload d3_26 rfl ?_
        refine W.if_lt d3_28 (fun h28 => ?_) (fun h => False.elim (by revert h; decide))
        refine W.iload d3_155 rfl ?_
        refine W.if_le d3_157 (fun h => False.elim (by revert h; decide)) (fun h157 => ?_)
        refine W.aloadN d3_160 rfl rfl ?_
        refine W.iload d3_161 rfl ?_
        refine W.lloadN d3_163 rfl ?_
        refine W.bipush 64 d3_164 rfl ?_
        refine W.iload d3_166 rfl ?_
        refine W.isub d3_168 ?_
        refine W.lshl d3_169 ?_
        refine W.lastore (i := 0) d3_170 rfl ⟨by decide, by decide⟩ (by simp) ?_
        refine W.aloadN d3_171 rfl rfl ?_
        exact W.areturn d3_172 rfl rfl rfl (by decide) (by decide) (⟨rfl, by rw [own_k8 t1 t2 t3 q0 q1] <;> rfl⟩)
    · rw [q1]
      refine W.istore d3_129 rfl ?_
      show WB _ l Z n m3 131 [(.val (.ref 0)), (.val (.ref 1)), (.val (.ref 2)), (.val (.long (((((((((((((0 : Int64) <<< ((1 : Int32) &&& 0x3f).toInt64) ||| ((XT.ushrL (Int64.ofNat t1.1) (3 - 1)) &&& 1)) <<< ((1 : Int32) &&& 0x3f).toInt64) ||| ((XT.ushrL (Int64.ofNat t2.1) (3 - 1)) &&& 1)) <<< ((1 : Int32) &&& 0x3f).toInt64) ||| ((XT.ushrL (Int64.ofNat t3.1) (3 - 1)) &&& 1)) <<< ((1 : Int32) &&& 0x3f).toInt64) ||| ((XT.ushrL (Int64.ofNat t2.1) ((3 - 1) + (-1))) &&& 1)) <<< ((1 : Int32) &&& 0x3f).toInt64) ||| ((XT.ushrL (Int64.ofNat t3.1) ((3 - 1) + (-1))) &&& 1)) <<< ((1 : Int32) &&& 0x3f).toInt64) ||| ((XT.ushrL (Int64.ofNat t1.1) ((3 - 1) + (-1))) &&& 1)))), .second, (.val (.int ((((((0 + 1) + 1) + 1) + 1) + 1) + 1))), (.val (.int (0))), (.val (.int (3))), (.val (.int ((3 - 1) + (-1)))), (.val (.int (((0 + (((XT.ushrL (Int64.ofNat t2.1) ((3 - 1) + (-1))) &&& 1).toInt32)) + (((XT.ushrL (Int64.ofNat t3.1) ((3 - 1) + (-1))) &&& 1).toInt32)) + (((XT.ushrL (Int64.ofNat t1.1) ((3 - 1) + (-1))) &&& 1).toInt32)))), (.val (.int (0 + 1))), (.val (.int (((0 + 1) + 1) + 1))), (.val (.long ((XT.ushrL (Int64.ofNat t1.1) ((3 - 1) + (-1))) &&& 1))), .second] [] [.inl ("com/example/reshelve/reshelve/service/sort/ZCurve", [(("com/example/reshelve/reshelve/service/sort/ZCurve", "dimensions", "I"), (.int (3))), (("com/example/reshelve/reshelve/service/sort/ZCurve", "bits", "I"), (.int (3))), (("com/example/reshelve/reshelve/service/sort/ZCurve", "words", "I"), (.int (1)))]), .inr (.long, [(.long (Int64.ofNat t1.1)), (.long (Int64.ofNat t2.1)), (.long (Int64.ofNat t3.1))]), .inr (.long, [(.long (0))])] _ _ _
      refine W.iload d3_131 rfl ?_
      refine W.aloadN d3_133 rfl rfl ?_
      refine W.getfield 0 d3_134 (hw _ (wd 10 rfl)) rfl rfl ?_
      refine W.icmp_lt d3_137 (fun h => False.elim (by revert h; decide)) (fun h137 => ?_)
      refine W.iload d3_140 rfl ?_
      refine W.aloadN d3_142 rfl rfl ?_
      refine W.getfield 0 d3_143 (hw _ (wd 10 rfl)) rfl rfl ?_
      refine W.isub d3_146 ?_
      refine W.istore d3_147 rfl ?_
      refine W.iinc (-1) d3_149 rfl rfl ?_
      refine W.goto d3_152 ?_
      refine W.iload d3_26 rfl ?_
      refine W.if_lt d3_28 (fun h => False.elim (by revert h; decide)) (fun h28 => ?_)
      refine W.iconst 0 d3_31 rfl ?_
      refine W.istore d3_32 rfl ?_
      refine W.iload d3_34 rfl ?_
      refine W.istore d3_36 rfl ?_
      show WB _ l Z n m3 38 [(.val (.ref 0)), (.val (.ref 1)), (.val (.ref 2)), (.val (.long (((((((((((((0 : Int64) <<< ((1 : Int32) &&& 0x3f).toInt64) ||| ((XT.ushrL (Int64.ofNat t1.1) (3 - 1)) &&& 1)) <<< ((1 : Int32) &&& 0x3f).toInt64) ||| ((XT.ushrL (Int64.ofNat t2.1) (3 - 1)) &&& 1)) <<< ((1 : Int32) &&& 0x3f).toInt64) ||| ((XT.ushrL (Int64.ofNat t3.1) (3 - 1)) &&& 1)) <<< ((1 : Int32) &&& 0x3f).toInt64) ||| ((XT.ushrL (Int64.ofNat t2.1) ((3 - 1) + (-1))) &&& 1)) <<< ((1 : Int32) &&& 0x3f).toInt64) ||| ((XT.ushrL (Int64.ofNat t3.1) ((3 - 1) + (-1))) &&& 1)) <<< ((1 : Int32) &&& 0x3f).toInt64) ||| ((XT.ushrL (Int64.ofNat t1.1) ((3 - 1) + (-1))) &&& 1)))), .second, (.val (.int ((((((0 + 1) + 1) + 1) + 1) + 1) + 1))), (.val (.int (0))), (.val (.int (3 - 3))), (.val (.int (((3 - 1) + (-1)) + (-1)))), (.val (.int (0))), (.val (.int (3 - 3))), (.val (.int (((0 + 1) + 1) + 1))), (.val (.long ((XT.ushrL (Int64.ofNat t1.1) ((3 - 1) + (-1))) &&& 1))), .second] [] [.inl ("com/example/reshelve/reshelve/service/sort/ZCurve", [(("com/example/reshelve/reshelve/service/sort/ZCurve", "dimensions", "I"), (.int (3))), (("com/example/reshelve/reshelve/service/sort/ZCurve", "bits", "I"), (.int (3))), (("com/example/reshelve/reshelve/service/sort/ZCurve", "words", "I"), (.int (1)))]), .inr (.long, [(.long (Int64.ofNat t1.1)), (.long (Int64.ofNat t2.1)), (.long (Int64.ofNat t3.1))]), .inr (.long, [(.long (0))])] _ _ _
      refine W.iconst 0 d3_38 rfl ?_
      refine W.istore d3_39 rfl ?_
      show W l Z n m3 41 [(.val (.ref 0)), (.val (.ref 1)), (.val (.ref 2)), (.val (.long (((((((((((((0 : Int64) <<< ((1 : Int32) &&& 0x3f).toInt64) ||| ((XT.ushrL (Int64.ofNat t1.1) (3 - 1)) &&& 1)) <<< ((1 : Int32) &&& 0x3f).toInt64) ||| ((XT.ushrL (Int64.ofNat t2.1) (3 - 1)) &&& 1)) <<< ((1 : Int32) &&& 0x3f).toInt64) ||| ((XT.ushrL (Int64.ofNat t3.1) (3 - 1)) &&& 1)) <<< ((1 : Int32) &&& 0x3f).toInt64) ||| ((XT.ushrL (Int64.ofNat t2.1) ((3 - 1) + (-1))) &&& 1)) <<< ((1 : Int32) &&& 0x3f).toInt64) ||| ((XT.ushrL (Int64.ofNat t3.1) ((3 - 1) + (-1))) &&& 1)) <<< ((1 : Int32) &&& 0x3f).toInt64) ||| ((XT.ushrL (Int64.ofNat t1.1) ((3 - 1) + (-1))) &&& 1)))), .second, (.val (.int ((((((0 + 1) + 1) + 1) + 1) + 1) + 1))), (.val (.int (0))), (.val (.int (3 - 3))), (.val (.int (((3 - 1) + (-1)) + (-1)))), (.val (.int (0))), (.val (.int (3 - 3))), (.val (.int (0))), (.val (.long ((XT.ushrL (Int64.ofNat t1.1) ((3 - 1) + (-1))) &&& 1))), .second] [] [.inl ("com/example/reshelve/reshelve/service/sort/ZCurve", [(("com/example/reshelve/reshelve/service/sort/ZCurve", "dimensions", "I"), (.int (3))), (("com/example/reshelve/reshelve/service/sort/ZCurve", "bits", "I"), (.int (3))), (("com/example/reshelve/reshelve/service/sort/ZCurve", "words", "I"), (.int (1)))]), .inr (.long, [(.long (Int64.ofNat t1.1)), (.long (Int64.ofNat t2.1)), (.long (Int64.ofNat t3.1))]), .inr (.long, [(.long (0))])] _ _ _
      refine W.iload d3_41 rfl ?_
      refine W.aloadN d3_43 rfl rfl ?_
      refine W.getfield 0 d3_44 (hw _ (wd 10 rfl)) rfl rfl ?_
      refine W.icmp_ge d3_47 (fun h => False.elim (by revert h; decide)) (fun h47 => ?_)
      refine W.aloadN d3_50 rfl rfl ?_
      refine W.iload d3_51 rfl ?_
      refine W.laload (i := 0) d3_53 rfl ⟨by decide, by decide⟩ rfl ?_
      refine W.iload d3_54 rfl ?_
      refine W.lushr d3_56 ?_
      refine W.lconst 1 d3_57 rfl ?_
      refine W.land d3_58 ?_
      refine W.lstore d3_59 rfl ?_
      refine W.lloadN d3_61 rfl ?_
      refine W.iconst 1 d3_62 rfl ?_
      refine W.lshl d3_63 ?_
      refine W.lload d3_64 rfl ?_
      refine W.lor d3_66 ?_
      refine W.lstoreN d3_67 rfl ?_
      refine W.iinc 1 d3_68 rfl rfl ?_
      show WB _ l Z n m3 71 [(.val (.ref 0)), (.val (.ref 1)), (.val (.ref 2)), (.val (.long (((((((((((((((0 : Int64) <<< ((1 : Int32) &&& 0x3f).toInt64) ||| ((XT.ushrL (Int64.ofNat t1.1) (3 - 1)) &&& 1)) <<< ((1 : Int32) &&& 0x3f).toInt64) ||| ((XT.ushrL (Int64.ofNat t2.1) (3 - 1)) &&& 1)) <<< ((1 : Int32) &&& 0x3f).toInt64) ||| ((XT.ushrL (Int64.ofNat t3.1) (3 - 1)) &&& 1)) <<< ((1 : Int32) &&& 0x3f).toInt64) ||| ((XT.ushrL (Int64.ofNat t2.1) ((3 - 1) + (-1))) &&& 1)) <<< ((1 : Int32) &&& 0x3f).toInt64) ||| ((XT.ushrL (Int64.ofNat t3.1) ((3 - 1) + (-1))) &&& 1)) <<< ((1 : Int32) &&& 0x3f).toInt64) ||| ((XT.ushrL (Int64.ofNat t1.1) ((3 - 1) + (-1))) &&& 1)) <<< ((1 : Int32) &&& 0x3f).toInt64) ||| ((XT.ushrL (Int64.ofNat t1.1) (((3 - 1) + (-1)) + (-1))) &&& 1)))), .second, (.val (.int (((((((0 + 1) + 1) + 1) + 1) + 1) + 1) + 1))), (.val (.int (0))), (.val (.int (3 - 3))), (.val (.int (((3 - 1) + (-1)) + (-1)))), (.val (.int (0))), (.val (.int (3 - 3))), (.val (.int (0))), (.val (.long ((XT.ushrL (Int64.ofNat t1.1) (((3 - 1) + (-1)) + (-1))) &&& 1))), .second] [] [.inl ("com/example/reshelve/reshelve/service/sort/ZCurve", [(("com/example/reshelve/reshelve/service/sort/ZCurve", "dimensions", "I"), (.int (3))), (("com/example/reshelve/reshelve/service/sort/ZCurve", "bits", "I"), (.int (3))), (("com/example/reshelve/reshelve/service/sort/ZCurve", "words", "I"), (.int (1)))]), .inr (.long, [(.long (Int64.ofNat t1.1)), (.long (Int64.ofNat t2.1)), (.long (Int64.ofNat t3.1))]), .inr (.long, [(.long (0))])] _ _ _
      refine W.iload d3_71 rfl ?_
      refine W.bipush 64 d3_73 rfl ?_
      refine W.icmp_ne d3_75 (fun h75 => ?_) (fun h => False.elim (by revert h; decide))
      refine W.iload d3_89 rfl ?_
      refine W.lload d3_91 rfl ?_
      refine W.l2i d3_93 ?_
      refine W.iadd d3_94 ?_
      refine W.istore d3_95 rfl ?_
      refine W.iload d3_97 rfl ?_
      refine W.iconst 1 d3_99 rfl ?_
      refine W.iadd d3_100 ?_
      refine W.aloadN d3_101 rfl rfl ?_
      refine W.getfield 0 d3_102 (hw _ (wd 10 rfl)) rfl rfl ?_
      refine W.icmp_ne d3_105 (fun h105 => ?_) (fun h => False.elim (by revert h; decide))
      refine W.iload d3_112 rfl ?_
      refine W.iconst 1 d3_114 rfl ?_
      refine W.iadd d3_115 ?_
      refine W.istore d3_116 rfl ?_
      refine W.iinc 1 d3_118 rfl rfl ?_
      refine W.goto d3_121 ?_
      show W l Z n m3 41 [(.val (.ref 0)), (.val (.ref 1)), (.val (.ref 2)), (.val (.long (((((((((((((((0 : Int64) <<< ((1 : Int32) &&& 0x3f).toInt64) ||| ((XT.ushrL (Int64.ofNat t1.1) (3 - 1)) &&& 1)) <<< ((1 : Int32) &&& 0x3f).toInt64) ||| ((XT.ushrL (Int64.ofNat t2.1) (3 - 1)) &&& 1)) <<< ((1 : Int32) &&& 0x3f).toInt64) ||| ((XT.ushrL (Int64.ofNat t3.1) (3 - 1)) &&& 1)) <<< ((1 : Int32) &&& 0x3f).toInt64) ||| ((XT.ushrL (Int64.ofNat t2.1) ((3 - 1) + (-1))) &&& 1)) <<< ((1 : Int32) &&& 0x3f).toInt64) ||| ((XT.ushrL (Int64.ofNat t3.1) ((3 - 1) + (-1))) &&& 1)) <<< ((1 : Int32) &&& 0x3f).toInt64) ||| ((XT.ushrL (Int64.ofNat t1.1) ((3 - 1) + (-1))) &&& 1)) <<< ((1 : Int32) &&& 0x3f).toInt64) ||| ((XT.ushrL (Int64.ofNat t1.1) (((3 - 1) + (-1)) + (-1))) &&& 1)))), .second, (.val (.int (((((((0 + 1) + 1) + 1) + 1) + 1) + 1) + 1))), (.val (.int (0))), (.val (.int (3 - 3))), (.val (.int (((3 - 1) + (-1)) + (-1)))), (.val (.int (0 + (((XT.ushrL (Int64.ofNat t1.1) (((3 - 1) + (-1)) + (-1))) &&& 1).toInt32)))), (.val (.int ((3 - 3) + 1))), (.val (.int (0 + 1))), (.val (.long ((XT.ushrL (Int64.ofNat t1.1) (((3 - 1) + (-1)) + (-1))) &&& 1))), .second] [] [.inl ("com/example/reshelve/reshelve/service/sort/ZCurve", [(("com/example/reshelve/reshelve/service/sort/ZCurve", "dimensions", "I"), (.int (3))), (("com/example/reshelve/reshelve/service/sort/ZCurve", "bits", "I"), (.int (3))), (("com/example/reshelve/reshelve/service/sort/ZCurve", "words", "I"), (.int (1)))]), .inr (.long, [(.long (Int64.ofNat t1.1)), (.long (Int64.ofNat t2.1)), (.long (Int64.ofNat t3.1))]), .inr (.long, [(.long (0))])] _ _ _
      refine W.iload d3_41 rfl ?_
      refine W.aloadN d3_43 rfl rfl ?_
      refine W.getfield 0 d3_44 (hw _ (wd 10 rfl)) rfl rfl ?_
      refine W.icmp_ge d3_47 (fun h => False.elim (by revert h; decide)) (fun h47 => ?_)
      refine W.aloadN d3_50 rfl rfl ?_
      refine W.iload d3_51 rfl ?_
      refine W.laload (i := 1) d3_53 rfl ⟨by decide, by decide⟩ rfl ?_
      refine W.iload d3_54 rfl ?_
      refine W.lushr d3_56 ?_
      refine W.lconst 1 d3_57 rfl ?_
      refine W.land d3_58 ?_
      refine W.lstore d3_59 rfl ?_
      show WB _ l Z n m3 61 [(.val (.ref 0)), (.val (.ref 1)), (.val (.ref 2)), (.val (.long (((((((((((((((0 : Int64) <<< ((1 : Int32) &&& 0x3f).toInt64) ||| ((XT.ushrL (Int64.ofNat t1.1) (3 - 1)) &&& 1)) <<< ((1 : Int32) &&& 0x3f).toInt64) ||| ((XT.ushrL (Int64.ofNat t2.1) (3 - 1)) &&& 1)) <<< ((1 : Int32) &&& 0x3f).toInt64) ||| ((XT.ushrL (Int64.ofNat t3.1) (3 - 1)) &&& 1)) <<< ((1 : Int32) &&& 0x3f).toInt64) ||| ((XT.ushrL (Int64.ofNat t2.1) ((3 - 1) + (-1))) &&& 1)) <<< ((1 : Int32) &&& 0x3f).toInt64) ||| ((XT.ushrL (Int64.ofNat t3.1) ((3 - 1) + (-1))) &&& 1)) <<< ((1 : Int32) &&& 0x3f).toInt64) ||| ((XT.ushrL (Int64.ofNat t1.1) ((3 - 1) + (-1))) &&& 1)) <<< ((1 : Int32) &&& 0x3f).toInt64) ||| ((XT.ushrL (Int64.ofNat t1.1) (((3 - 1) + (-1)) + (-1))) &&& 1)))), .second, (.val (.int (((((((0 + 1) + 1) + 1) + 1) + 1) + 1) + 1))), (.val (.int (0))), (.val (.int (3 - 3))), (.val (.int (((3 - 1) + (-1)) + (-1)))), (.val (.int (0 + (((XT.ushrL (Int64.ofNat t1.1) (((3 - 1) + (-1)) + (-1))) &&& 1).toInt32)))), (.val (.int ((3 - 3) + 1))), (.val (.int (0 + 1))), (.val (.long ((XT.ushrL (Int64.ofNat t2.1) (((3 - 1) + (-1)) + (-1))) &&& 1))), .second] [] [.inl ("com/example/reshelve/reshelve/service/sort/ZCurve", [(("com/example/reshelve/reshelve/service/sort/ZCurve", "dimensions", "I"), (.int (3))), (("com/example/reshelve/reshelve/service/sort/ZCurve", "bits", "I"), (.int (3))), (("com/example/reshelve/reshelve/service/sort/ZCurve", "words", "I"), (.int (1)))]), .inr (.long, [(.long (Int64.ofNat t1.1)), (.long (Int64.ofNat t2.1)), (.long (Int64.ofNat t3.1))]), .inr (.long, [(.long (0))])] _ _ _
      refine W.lloadN d3_61 rfl ?_
      refine W.iconst 1 d3_62 rfl ?_
      refine W.lshl d3_63 ?_
      refine W.lload d3_64 rfl ?_
      refine W.lor d3_66 ?_
      refine W.lstoreN d3_67 rfl ?_
      refine W.iinc 1 d3_68 rfl rfl ?_
      refine W.iload d3_71 rfl ?_
      refine W.bipush 64 d3_73 rfl ?_
      refine W.icmp_ne d3_75 (fun h75 => ?_) (fun h => False.elim (by revert h; decide))
      refine W.iload d3_89 rfl ?_
      refine W.lload d3_91 rfl ?_
      refine W.l2i d3_93 ?_
      refine W.iadd d3_94 ?_
      refine W.istore d3_95 rfl ?_
      refine W.iload d3_97 rfl ?_
      refine W.iconst 1 d3_99 rfl ?_
      refine W.iadd d3_100 ?_
      refine W.aloadN d3_101 rfl rfl ?_
      refine W.getfield 0 d3_102 (hw _ (wd 10 rfl)) rfl rfl ?_
      refine W.icmp_ne d3_105 (fun h105 => ?_) (fun h => False.elim (by revert h; decide))
      refine W.iload d3_112 rfl ?_
      refine W.iconst 1 d3_114 rfl ?_
      refine W.iadd d3_115 ?_
      refine W.istore d3_116 rfl ?_
      show WB _ l Z n m3 118 [(.val (.ref 0)), (.val (.ref 1)), (.val (.ref 2)), (.val (.long (((((((((((((((((0 : Int64) <<< ((1 : Int32) &&& 0x3f).toInt64) ||| ((XT.ushrL (Int64.ofNat t1.1) (3 - 1)) &&& 1)) <<< ((1 : Int32) &&& 0x3f).toInt64) ||| ((XT.ushrL (Int64.ofNat t2.1) (3 - 1)) &&& 1)) <<< ((1 : Int32) &&& 0x3f).toInt64) ||| ((XT.ushrL (Int64.ofNat t3.1) (3 - 1)) &&& 1)) <<< ((1 : Int32) &&& 0x3f).toInt64) ||| ((XT.ushrL (Int64.ofNat t2.1) ((3 - 1) + (-1))) &&& 1)) <<< ((1 : Int32) &&& 0x3f).toInt64) ||| ((XT.ushrL (Int64.ofNat t3.1) ((3 - 1) + (-1))) &&& 1)) <<< ((1 : Int32) &&& 0x3f).toInt64) ||| ((XT.ushrL (Int64.ofNat t1.1) ((3 - 1) + (-1))) &&& 1)) <<< ((1 : Int32) &&& 0x3f).toInt64) ||| ((XT.ushrL (Int64.ofNat t1.1) (((3 - 1) + (-1)) + (-1))) &&& 1)) <<< ((1 : Int32) &&& 0x3f).toInt64) ||| ((XT.ushrL (Int64.ofNat t2.1) (((3 - 1) + (-1)) + (-1))) &&& 1)))), .second, (.val (.int ((((((((0 + 1) + 1) + 1) + 1) + 1) + 1) + 1) + 1))), (.val (.int (0))), (.val (.int (3 - 3))), (.val (.int (((3 - 1) + (-1)) + (-1)))), (.val (.int ((0 + (((XT.ushrL (Int64.ofNat t1.1) (((3 - 1) + (-1)) + (-1))) &&& 1).toInt32)) + (((XT.ushrL (Int64.ofNat t2.1) (((3 - 1) + (-1)) + (-1))) &&& 1).toInt32)))), (.val (.int (((3 - 3) + 1) + 1))), (.val (.int (0 + 1))), (.val (.long ((XT.ushrL (Int64.ofNat t2.1) (((3 - 1) + (-1)) + (-1))) &&& 1))), .second] [] [.inl ("com/example/reshelve/reshelve/service/sort/ZCurve", [(("com/example/reshelve/reshelve/service/sort/ZCurve", "dimensions", "I"), (.int (3))), (("com/example/reshelve/reshelve/service/sort/ZCurve", "bits", "I"), (.int (3))), (("com/example/reshelve/reshelve/service/sort/ZCurve", "words", "I"), (.int (1)))]), .inr (.long, [(.long (Int64.ofNat t1.1)), (.long (Int64.ofNat t2.1)), (.long (Int64.ofNat t3.1))]), .inr (.long, [(.long (0))])] _ _ _
      refine W.iinc 1 d3_118 rfl rfl ?_
      refine W.goto d3_121 ?_
      show W l Z n m3 41 [(.val (.ref 0)), (.val (.ref 1)), (.val (.ref 2)), (.val (.long (((((((((((((((((0 : Int64) <<< ((1 : Int32) &&& 0x3f).toInt64) ||| ((XT.ushrL (Int64.ofNat t1.1) (3 - 1)) &&& 1)) <<< ((1 : Int32) &&& 0x3f).toInt64) ||| ((XT.ushrL (Int64.ofNat t2.1) (3 - 1)) &&& 1)) <<< ((1 : Int32) &&& 0x3f).toInt64) ||| ((XT.ushrL (Int64.ofNat t3.1) (3 - 1)) &&& 1)) <<< ((1 : Int32) &&& 0x3f).toInt64) ||| ((XT.ushrL (Int64.ofNat t2.1) ((3 - 1) + (-1))) &&& 1)) <<< ((1 : Int32) &&& 0x3f).toInt64) ||| ((XT.ushrL (Int64.ofNat t3.1) ((3 - 1) + (-1))) &&& 1)) <<< ((1 : Int32) &&& 0x3f).toInt64) ||| ((XT.ushrL (Int64.ofNat t1.1) ((3 - 1) + (-1))) &&& 1)) <<< ((1 : Int32) &&& 0x3f).toInt64) ||| ((XT.ushrL (Int64.ofNat t1.1) (((3 - 1) + (-1)) + (-1))) &&& 1)) <<< ((1 : Int32) &&& 0x3f).toInt64) ||| ((XT.ushrL (Int64.ofNat t2.1) (((3 - 1) + (-1)) + (-1))) &&& 1)))), .second, (.val (.int ((((((((0 + 1) + 1) + 1) + 1) + 1) + 1) + 1) + 1))), (.val (.int (0))), (.val (.int (3 - 3))), (.val (.int (((3 - 1) + (-1)) + (-1)))), (.val (.int ((0 + (((XT.ushrL (Int64.ofNat t1.1) (((3 - 1) + (-1)) + (-1))) &&& 1).toInt32)) + (((XT.ushrL (Int64.ofNat t2.1) (((3 - 1) + (-1)) + (-1))) &&& 1).toInt32)))), (.val (.int (((3 - 3) + 1) + 1))), (.val (.int ((0 + 1) + 1))), (.val (.long ((XT.ushrL (Int64.ofNat t2.1) (((3 - 1) + (-1)) + (-1))) &&& 1))), .second] [] [.inl ("com/example/reshelve/reshelve/service/sort/ZCurve", [(("com/example/reshelve/reshelve/service/sort/ZCurve", "dimensions", "I"), (.int (3))), (("com/example/reshelve/reshelve/service/sort/ZCurve", "bits", "I"), (.int (3))), (("com/example/reshelve/reshelve/service/sort/ZCurve", "words", "I"), (.int (1)))]), .inr (.long, [(.long (Int64.ofNat t1.1)), (.long (Int64.ofNat t2.1)), (.long (Int64.ofNat t3.1))]), .inr (.long, [(.long (0))])] _ _ _
      refine W.iload d3_41 rfl ?_
      refine W.aloadN d3_43 rfl rfl ?_
      refine W.getfield 0 d3_44 (hw _ (wd 10 rfl)) rfl rfl ?_
      refine W.icmp_ge d3_47 (fun h => False.elim (by revert h; decide)) (fun h47 => ?_)
      refine W.aloadN d3_50 rfl rfl ?_
      refine W.iload d3_51 rfl ?_
      refine W.laload (i := 2) d3_53 rfl ⟨by decide, by decide⟩ rfl ?_
      refine W.iload d3_54 rfl ?_
      refine W.lushr d3_56 ?_
      refine W.lconst 1 d3_57 rfl ?_
      refine W.land d3_58 ?_
      refine W.lstore d3_59 rfl ?_
      refine W.lloadN d3_61 rfl ?_
      refine W.iconst 1 d3_62 rfl ?_
      refine W.lshl d3_63 ?_
      refine W.lload d3_64 rfl ?_
      refine W.lor d3_66 ?_
      refine W.lstoreN d3_67 rfl ?_
      refine W.iinc 1 d3_68 rfl rfl ?_
      show WB _ l Z n m3 71 [(.val (.ref 0)), (.val (.ref 1)), (.val (.ref 2)), (.val (.long (((((((((((((((((((0 : Int64) <<< ((1 : Int32) &&& 0x3f).toInt64) ||| ((XT.ushrL (Int64.ofNat t1.1) (3 - 1)) &&& 1)) <<< ((1 : Int32) &&& 0x3f).toInt64) ||| ((XT.ushrL (Int64.ofNat t2.1) (3 - 1)) &&& 1)) <<< ((1 : Int32) &&& 0x3f).toInt64) ||| ((XT.ushrL (Int64.ofNat t3.1) (3 - 1)) &&& 1)) <<< ((1 : Int32) &&& 0x3f).toInt64) ||| ((XT.ushrL (Int64.ofNat t2.1) ((3 - 1) + (-1))) &&& 1)) <<< ((1 : Int32) &&& 0x3f).toInt64) ||| ((XT.ushrL (Int64.ofNat t3.1) ((3 - 1) + (-1))) &&& 1)) <<< ((1 : Int32) &&& 0x3f).toInt64) ||| ((XT.ushrL (Int64.ofNat t1.1) ((3 - 1) + (-1))) &&& 1)) <<< ((1 : Int32) &&& 0x3f).toInt64) ||| ((XT.ushrL (Int64.ofNat t1.1) (((3 - 1) + (-1)) + (-1))) &&& 1)) <<< ((1 : Int32) &&& 0x3f).toInt64) ||| ((XT.ushrL (Int64.ofNat t2.1) (((3 - 1) + (-1)) + (-1))) &&& 1)) <<< ((1 : Int32) &&& 0x3f).toInt64) ||| ((XT.ushrL (Int64.ofNat t3.1) (((3 - 1) + (-1)) + (-1))) &&& 1)))), .second, (.val (.int (((((((((0 + 1) + 1) + 1) + 1) + 1) + 1) + 1) + 1) + 1))), (.val (.int (0))), (.val (.int (3 - 3))), (.val (.int (((3 - 1) + (-1)) + (-1)))), (.val (.int ((0 + (((XT.ushrL (Int64.ofNat t1.1) (((3 - 1) + (-1)) + (-1))) &&& 1).toInt32)) + (((XT.ushrL (Int64.ofNat t2.1) (((3 - 1) + (-1)) + (-1))) &&& 1).toInt32)))), (.val (.int (((3 - 3) + 1) + 1))), (.val (.int ((0 + 1) + 1))), (.val (.long ((XT.ushrL (Int64.ofNat t3.1) (((3 - 1) + (-1)) + (-1))) &&& 1))), .second] [] [.inl ("com/example/reshelve/reshelve/service/sort/ZCurve", [(("com/example/reshelve/reshelve/service/sort/ZCurve", "dimensions", "I"), (.int (3))), (("com/example/reshelve/reshelve/service/sort/ZCurve", "bits", "I"), (.int (3))), (("com/example/reshelve/reshelve/service/sort/ZCurve", "words", "I"), (.int (1)))]), .inr (.long, [(.long (Int64.ofNat t1.1)), (.long (Int64.ofNat t2.1)), (.long (Int64.ofNat t3.1))]), .inr (.long, [(.long (0))])] _ _ _
      refine W.iload d3_71 rfl ?_
      refine W.bipush 64 d3_73 rfl ?_
      refine W.icmp_ne d3_75 (fun h75 => ?_) (fun h => False.elim (by revert h; decide))
      refine W.iload d3_89 rfl ?_
      refine W.lload d3_91 rfl ?_
      refine W.l2i d3_93 ?_
      refine W.iadd d3_94 ?_
      refine W.istore d3_95 rfl ?_
      refine W.iload d3_97 rfl ?_
      refine W.iconst 1 d3_99 rfl ?_
      refine W.iadd d3_100 ?_
      refine W.aloadN d3_101 rfl rfl ?_
      refine W.getfield 0 d3_102 (hw _ (wd 10 rfl)) rfl rfl ?_
      refine W.icmp_ne d3_105 (fun h => False.elim (by revert h; decide)) (fun h105 => ?_)
      refine W.iconst 0 d3_108 rfl ?_
      refine W.goto d3_109 ?_
      refine W.istore d3_116 rfl ?_
      refine W.iinc 1 d3_118 rfl rfl ?_
      refine W.goto d3_121 ?_
      show W l Z n m3 41 [(.val (.ref 0)), (.val (.ref 1)), (.val (.ref 2)), (.val (.long (((((((((((((((((((0 : Int64) <<< ((1 : Int32) &&& 0x3f).toInt64) ||| ((XT.ushrL (Int64.ofNat t1.1) (3 - 1)) &&& 1)) <<< ((1 : Int32) &&& 0x3f).toInt64) ||| ((XT.ushrL (Int64.ofNat t2.1) (3 - 1)) &&& 1)) <<< ((1 : Int32) &&& 0x3f).toInt64) ||| ((XT.ushrL (Int64.ofNat t3.1) (3 - 1)) &&& 1)) <<< ((1 : Int32) &&& 0x3f).toInt64) ||| ((XT.ushrL (Int64.ofNat t2.1) ((3 - 1) + (-1))) &&& 1)) <<< ((1 : Int32) &&& 0x3f).toInt64) ||| ((XT.ushrL (Int64.ofNat t3.1) ((3 - 1) + (-1))) &&& 1)) <<< ((1 : Int32) &&& 0x3f).toInt64) ||| ((XT.ushrL (Int64.ofNat t1.1) ((3 - 1) + (-1))) &&& 1)) <<< ((1 : Int32) &&& 0x3f).toInt64) ||| ((XT.ushrL (Int64.ofNat t1.1) (((3 - 1) + (-1)) + (-1))) &&& 1)) <<< ((1 : Int32) &&& 0x3f).toInt64) ||| ((XT.ushrL (Int64.ofNat t2.1) (((3 - 1) + (-1)) + (-1))) &&& 1)) <<< ((1 : Int32) &&& 0x3f).toInt64) ||| ((XT.ushrL (Int64.ofNat t3.1) (((3 - 1) + (-1)) + (-1))) &&& 1)))), .second, (.val (.int (((((((((0 + 1) + 1) + 1) + 1) + 1) + 1) + 1) + 1) + 1))), (.val (.int (0))), (.val (.int (3 - 3))), (.val (.int (((3 - 1) + (-1)) + (-1)))), (.val (.int (((0 + (((XT.ushrL (Int64.ofNat t1.1) (((3 - 1) + (-1)) + (-1))) &&& 1).toInt32)) + (((XT.ushrL (Int64.ofNat t2.1) (((3 - 1) + (-1)) + (-1))) &&& 1).toInt32)) + (((XT.ushrL (Int64.ofNat t3.1) (((3 - 1) + (-1)) + (-1))) &&& 1).toInt32)))), (.val (.int (0))), (.val (.int (((0 + 1) + 1) + 1))), (.val (.long ((XT.ushrL (Int64.ofNat t3.1) (((3 - 1) + (-1)) + (-1))) &&& 1))), .second] [] [.inl ("com/example/reshelve/reshelve/service/sort/ZCurve", [(("com/example/reshelve/reshelve/service/sort/ZCurve", "dimensions", "I"), (.int (3))), (("com/example/reshelve/reshelve/service/sort/ZCurve", "bits", "I"), (.int (3))), (("com/example/reshelve/reshelve/service/sort/ZCurve", "words", "I"), (.int (1)))]), .inr (.long, [(.long (Int64.ofNat t1.1)), (.long (Int64.ofNat t2.1)), (.long (Int64.ofNat t3.1))]), .inr (.long, [(.long (0))])] _ _ _
      refine W.iload d3_41 rfl ?_
      refine W.aloadN d3_43 rfl rfl ?_
      refine W.getfield 0 d3_44 (hw _ (wd 10 rfl)) rfl rfl ?_
      refine W.icmp_ge d3_47 (fun h47 => ?_) (fun h => False.elim (by revert h; decide))
      refine W.iload d3_124 rfl ?_
      refine W.iload d3_126 rfl ?_
      refine W.iadd d3_128 ?_
      refine W.istore d3_129 rfl ?_
      show WB _ l Z n m3 131 [(.val (.ref 0)), (.val (.ref 1)), (.val (.ref 2)), (.val (.long (((((((((((((((((((0 : Int64) <<< ((1 : Int32) &&& 0x3f).toInt64) ||| ((XT.ushrL (Int64.ofNat t1.1) (3 - 1)) &&& 1)) <<< ((1 : Int32) &&& 0x3f).toInt64) ||| ((XT.ushrL (Int64.ofNat t2.1) (3 - 1)) &&& 1)) <<< ((1 : Int32) &&& 0x3f).toInt64) ||| ((XT.ushrL (Int64.ofNat t3.1) (3 - 1)) &&& 1)) <<< ((1 : Int32) &&& 0x3f).toInt64) ||| ((XT.ushrL (Int64.ofNat t2.1) ((3 - 1) + (-1))) &&& 1)) <<< ((1 : Int32) &&& 0x3f).toInt64) ||| ((XT.ushrL (Int64.ofNat t3.1) ((3 - 1) + (-1))) &&& 1)) <<< ((1 : Int32) &&& 0x3f).toInt64) ||| ((XT.ushrL (Int64.ofNat t1.1) ((3 - 1) + (-1))) &&& 1)) <<< ((1 : Int32) &&& 0x3f).toInt64) ||| ((XT.ushrL (Int64.ofNat t1.1) (((3 - 1) + (-1)) + (-1))) &&& 1)) <<< ((1 : Int32) &&& 0x3f).toInt64) ||| ((XT.ushrL (Int64.ofNat t2.1) (((3 - 1) + (-1)) + (-1))) &&& 1)) <<< ((1 : Int32) &&& 0x3f).toInt64) ||| ((XT.ushrL (Int64.ofNat t3.1) (((3 - 1) + (-1)) + (-1))) &&& 1)))), .second, (.val (.int (((((((((0 + 1) + 1) + 1) + 1) + 1) + 1) + 1) + 1) + 1))), (.val (.int (0))), (.val (.int ((3 - 3) + (((0 + (((XT.ushrL (Int64.ofNat t1.1) (((3 - 1) + (-1)) + (-1))) &&& 1).toInt32)) + (((XT.ushrL (Int64.ofNat t2.1) (((3 - 1) + (-1)) + (-1))) &&& 1).toInt32)) + (((XT.ushrL (Int64.ofNat t3.1) (((3 - 1) + (-1)) + (-1))) &&& 1).toInt32))))), (.val (.int (((3 - 1) + (-1)) + (-1)))), (.val (.int (((0 + (((XT.ushrL (Int64.ofNat t1.1) (((3 - 1) + (-1)) + (-1))) &&& 1).toInt32)) + (((XT.ushrL (Int64.ofNat t2.1) (((3 - 1) + (-1)) + (-1))) &&& 1).toInt32)) + (((XT.ushrL (Int64.ofNat t3.1) (((3 - 1) + (-1)) + (-1))) &&& 1).toInt32)))), (.val (.int (0))), (.val (.int (((0 + 1) + 1) + 1))), (.val (.long ((XT.ushrL (Int64.ofNat t3.1) (((3 - 1) + (-1)) + (-1))) &&& 1))), .second] [] [.inl ("com/example/reshelve/reshelve/service/sort/ZCurve", [(("com/example/reshelve/reshelve/service/sort/ZCurve", "dimensions", "I"), (.int (3))), (("com/example/reshelve/reshelve/service/sort/ZCurve", "bits", "I"), (.int (3))), (("com/example/reshelve/reshelve/service/sort/ZCurve", "words", "I"), (.int (1)))]), .inr (.long, [(.long (Int64.ofNat t1.1)), (.long (Int64.ofNat t2.1)), (.long (Int64.ofNat t3.1))]), .inr (.long, [(.long (0))])] _ _ _
      refine W.iload d3_131 rfl ?_
      refine W.aloadN d3_133 rfl rfl ?_
      refine W.getfield 0 d3_134 (hw _ (wd 10 rfl)) rfl rfl ?_
      refine W.icmp_lt d3_137 (fun h137 => ?_) (fun h137 => ?_)
      · refine W.iinc (-1) d3_149 rfl rfl ?_
        refine W.goto d3_152 ?_
        refine W.iload d3_26 rfl ?_
        refine W.if_lt d3_28 (fun h28 => ?_) (fun h => False.elim (by revert h; decide))
        refine W.iload d3_155 rfl ?_
        refine W.if_le d3_157 (fun h => False.elim (by revert h; decide)) (fun h157 => ?_)
        refine W.aloadN d3_160 rfl rfl ?_
        refine W.iload d3_161 rfl ?_
        refine W.lloadN d3_163 rfl ?_
        refine W.bipush 64 d3_164 rfl ?_
        refine W.iload d3_166 rfl ?_
        refine W.isub d3_168 ?_
        refine W.lshl d3_169 ?_
        refine W.lastore (i := 0) d3_170 rfl ⟨by decide, by decide⟩ (by simp) ?_
        refine W.aloadN d3_171 rfl rfl ?_
        exact W.areturn d3_172 rfl rfl rfl (by decide) (by decide) (⟨rfl, by rw [own_k9 t1 t2 t3 q0 q1] <;> rfl⟩)
      · refine W.iload d3_140 rfl ?_
        refine W.aloadN d3_142 rfl rfl ?_
        refine W.getfield 0 d3_143 (hw _ (wd 10 rfl)) rfl rfl ?_
        refine W.isub d3_146 ?_
        refine W.istore d3_147 rfl ?_
        refine W.iinc (-1) d3_149 rfl rfl ?_
        refine W.goto d3_152 ?_
        refine W.iload d3_26 rfl ?_
        refine W.if_lt d3_28 (fun h28 => ?_) (fun h => False.elim (by revert h; decide))
        refine W.iload d3_155 rfl ?_
        refine W.if_le d3_157 (fun h => False.elim (by revert h; decide)) (fun h157 => ?_)
        refine W.aloadN d3_160 rfl rfl ?_
        refine W.iload d3_161 rfl ?_
        refine W.lloadN d3_163 rfl ?_
        refine W.bipush 64 d3_164 rfl ?_
        refine W.iload d3_166 rfl ?_
        refine W.isub d3_168 ?_
        refine W.lshl d3_169 ?_
        refine W.lastore (i := 0) d3_170 rfl ⟨by decide, by decide⟩ (by simp) ?_
        refine W.aloadN d3_171 rfl rfl ?_
        exact W.areturn d3_172 rfl rfl rfl (by decide) (by decide) (⟨rfl, by rw [own_k9 t1 t2 t3 q0 q1] <;> rfl⟩)
    · rw [q1]
      refine W.istore d3_129 rfl ?_
      show WB _ l Z n m3 131 [(.val (.ref 0)), (.val (.ref 1)), (.val (.ref 2)), (.val (.long (((((((((((((0 : Int64) <<< ((1 : Int32) &&& 0x3f).toInt64) ||| ((XT.ushrL (Int64.ofNat t1.1) (3 - 1)) &&& 1)) <<< ((1 : Int32) &&& 0x3f).toInt64) ||| ((XT.ushrL (Int64.ofNat t2.1) (3 - 1)) &&& 1)) <<< ((1 : Int32) &&& 0x3f).toInt64) ||| ((XT.ushrL (Int64.ofNat t3.1) (3 - 1)) &&& 1)) <<< ((1 : Int32) &&& 0x3f).toInt64) ||| ((XT.ushrL (Int64.ofNat t2.1) ((3 - 1) + (-1))) &&& 1)) <<< ((1 : Int32) &&& 0x3f).toInt64) ||| ((XT.ushrL (Int64.ofNat t3.1) ((3 - 1) + (-1))) &&& 1)) <<< ((1 : Int32) &&& 0x3f).toInt64) ||| ((XT.ushrL (Int64.ofNat t1.1) ((3 - 1) + (-1))) &&& 1)))), .second, (.val (.int ((((((0 + 1) + 1) + 1) + 1) + 1) + 1))), (.val (.int (0))), (.val (.int (4))), (.val (.int ((3 - 1) + (-1)))), (.val (.int (((0 + (((XT.ushrL (Int64.ofNat t2.1) ((3 - 1) + (-1))) &&& 1).toInt32)) + (((XT.ushrL (Int64.ofNat t3.1) ((3 - 1) + (-1))) &&& 1).toInt32)) + (((XT.ushrL (Int64.ofNat t1.1) ((3 - 1) + (-1))) &&& 1).toInt32)))), (.val (.int (0 + 1))), (.val (.int (((0 + 1) + 1) + 1))), (.val (.long ((XT.ushrL (Int64.ofNat t1.1) ((3 - 1) + (-1))) &&& 1))), .second] [] [.inl ("com/example/reshelve/reshelve/service/sort/ZCurve", [(("com/example/reshelve/reshelve/service/sort/ZCurve", "dimensions", "I"), (.int (3))), (("com/example/reshelve/reshelve/service/sort/ZCurve", "bits", "I"), (.int (3))), (("com/example/reshelve/reshelve/service/sort/ZCurve", "words", "I"), (.int (1)))]), .inr (.long, [(.long (Int64.ofNat t1.1)), (.long (Int64.ofNat t2.1)), (.long (Int64.ofNat t3.1))]), .inr (.long, [(.long (0))])] _ _ _
      refine W.iload d3_131 rfl ?_
      refine W.aloadN d3_133 rfl rfl ?_
      refine W.getfield 0 d3_134 (hw _ (wd 10 rfl)) rfl rfl ?_
      refine W.icmp_lt d3_137 (fun h => False.elim (by revert h; decide)) (fun h137 => ?_)
      refine W.iload d3_140 rfl ?_
      refine W.aloadN d3_142 rfl rfl ?_
      refine W.getfield 0 d3_143 (hw _ (wd 10 rfl)) rfl rfl ?_
      refine W.isub d3_146 ?_
      refine W.istore d3_147 rfl ?_
      refine W.iinc (-1) d3_149 rfl rfl ?_
      refine W.goto d3_152 ?_
      refine W.iload d3_26 rfl ?_
      refine W.if_lt d3_28 (fun h => False.elim (by revert h; decide)) (fun h28 => ?_)
      refine W.iconst 0 d3_31 rfl ?_
      refine W.istore d3_32 rfl ?_
      refine W.iload d3_34 rfl ?_
      refine W.istore d3_36 rfl ?_
      show WB _ l Z n m3 38 [(.val (.ref 0)), (.val (.ref 1)), (.val (.ref 2)), (.val (.long (((((((((((((0 : Int64) <<< ((1 : Int32) &&& 0x3f).toInt64) ||| ((XT.ushrL (Int64.ofNat t1.1) (3 - 1)) &&& 1)) <<< ((1 : Int32) &&& 0x3f).toInt64) ||| ((XT.ushrL (Int64.ofNat t2.1) (3 - 1)) &&& 1)) <<< ((1 : Int32) &&& 0x3f).toInt64) ||| ((XT.ushrL (Int64.ofNat t3.1) (3 - 1)) &&& 1)) <<< ((1 : Int32) &&& 0x3f).toInt64) ||| ((XT.ushrL (Int64.ofNat t2.1) ((3 - 1) + (-1))) &&& 1)) <<< ((1 : Int32) &&& 0x3f).toInt64) ||| ((XT.ushrL (Int64.ofNat t3.1) ((3 - 1) + (-1))) &&& 1)) <<< ((1 : Int32) &&& 0x3f).toInt64) ||| ((XT.ushrL (Int64.ofNat t1.1) ((3 - 1) + (-1))) &&& 1)))), .second, (.val (.int ((((((0 + 1) + 1) + 1) + 1) + 1) + 1))), (.val (.int (0))), (.val (.int (4 - 3))), (.val (.int (((3 - 1) + (-1)) + (-1)))), (.val (.int (0))), (.val (.int (4 - 3))), (.val (.int (((0 + 1) + 1) + 1))), (.val (.long ((XT.ushrL (Int64.ofNat t1.1) ((3 - 1) + (-1))) &&& 1))), .second] [] [.inl ("com/example/reshelve/reshelve/service/sort/ZCurve", [(("com/example/reshelve/reshelve/service/sort/ZCurve", "dimensions", "I"), (.int (3))), (("com/example/reshelve/reshelve/service/sort/ZCurve", "bits", "I"), (.int (3))), (("com/example/reshelve/reshelve/service/sort/ZCurve", "words", "I"), (.int (1)))]), .inr (.long, [(.long (Int64.ofNat t1.1)), (.long (Int64.ofNat t2.1)), (.long (Int64.ofNat t3.1))]), .inr (.long, [(.long (0))])] _ _ _
      refine W.iconst 0 d3_38 rfl ?_
      refine W.istore d3_39 rfl ?_
      show W l Z n m3 41 [(.val (.ref 0)), (.val (.ref 1)), (.val (.ref 2)), (.val (.long (((((((((((((0 : Int64) <<< ((1 : Int32) &&& 0x3f).toInt64) ||| ((XT.ushrL (Int64.ofNat t1.1) (3 - 1)) &&& 1)) <<< ((1 : Int32) &&& 0x3f).toInt64) ||| ((XT.ushrL (Int64.ofNat t2.1) (3 - 1)) &&& 1)) <<< ((1 : Int32) &&& 0x3f).toInt64) ||| ((XT.ushrL (Int64.ofNat t3.1) (3 - 1)) &&& 1)) <<< ((1 : Int32) &&& 0x3f).toInt64) ||| ((XT.ushrL (Int64.ofNat t2.1) ((3 - 1) + (-1))) &&& 1)) <<< ((1 : Int32) &&& 0x3f).toInt64) ||| ((XT.ushrL (Int64.ofNat t3.1) ((3 - 1) + (-1))) &&& 1)) <<< ((1 : Int32) &&& 0x3f).toInt64) ||| ((XT.ushrL (Int64.ofNat t1.1) ((3 - 1) + (-1))) &&& 1)))), .second, (.val (.int ((((((0 + 1) + 1) + 1) + 1) + 1) + 1))), (.val (.int (0))), (.val (.int (4 - 3))), (.val (.int (((3 - 1) + (-1)) + (-1)))), (.val (.int (0))), (.val (.int (4 - 3))), (.val (.int (0))), (.val (.long ((XT.ushrL (Int64.ofNat t1.1) ((3 - 1) + (-1))) &&& 1))), .second] [] [.inl ("com/example/reshelve/reshelve/service/sort/ZCurve", [(("com/example/reshelve/reshelve/service/sort/ZCurve", "dimensions", "I"), (.int (3))), (("com/example/reshelve/reshelve/service/sort/ZCurve", "bits", "I"), (.int (3))), (("com/example/reshelve/reshelve/service/sort/ZCurve", "words", "I"), (.int (1)))]), .inr (.long, [(.long (Int64.ofNat t1.1)), (.long (Int64.ofNat t2.1)), (.long (Int64.ofNat t3.1))]), .inr (.long, [(.long (0))])] _ _ _
      refine W.iload d3_41 rfl ?_
      refine W.aloadN d3_43 rfl rfl ?_
      refine W.getfield 0 d3_44 (hw _ (wd 10 rfl)) rfl rfl ?_
      refine W.icmp_ge d3_47 (fun h => False.elim (by revert h; decide)) (fun h47 => ?_)
      refine W.aloadN d3_50 rfl rfl ?_
      refine W.iload d3_51 rfl ?_
      refine W.laload (i := 1) d3_53 rfl ⟨by decide, by decide⟩ rfl ?_
      refine W.iload d3_54 rfl ?_
      refine W.lushr d3_56 ?_
      refine W.lconst 1 d3_57 rfl ?_
      refine W.land d3_58 ?_
      refine W.lstore d3_59 rfl ?_
      refine W.lloadN d3_61 rfl ?_
      refine W.iconst 1 d3_62 rfl ?_
      refine W.lshl d3_63 ?_
      refine W.lload d3_64 rfl ?_
      refine W.lor d3_66 ?_
      refine W.lstoreN d3_67 rfl ?_
      refine W.iinc 1 d3_68 rfl rfl ?_
      show WB _ l Z n m3 71 [(.val (.ref 0)), (.val (.ref 1)), (.val (.ref 2)), (.val (.long (((((((((((((((0 : Int64) <<< ((1 : Int32) &&& 0x3f).toInt64) ||| ((XT.ushrL (Int64.ofNat t1.1) (3 - 1)) &&& 1)) <<< ((1 : Int32) &&& 0x3f).toInt64) ||| ((XT.ushrL (Int64.ofNat t2.1) (3 - 1)) &&& 1)) <<< ((1 : Int32) &&& 0x3f).toInt64) ||| ((XT.ushrL (Int64.ofNat t3.1) (3 - 1)) &&& 1)) <<< ((1 : Int32) &&& 0x3f).toInt64) ||| ((XT.ushrL (Int64.ofNat t2.1) ((3 - 1) + (-1))) &&& 1)) <<< ((1 : Int32) &&& 0x3f).toInt64) ||| ((XT.ushrL (Int64.ofNat t3.1) ((3 - 1) + (-1))) &&& 1)) <<< ((1 : Int32) &&& 0x3f).toInt64) ||| ((XT.ushrL (Int64.ofNat t1.1) ((3 - 1) + (-1))) &&& 1)) <<< ((1 : Int32) &&& 0x3f).toInt64) ||| ((XT.ushrL (Int64.ofNat t2.1) (((3 - 1) + (-1)) + (-1))) &&& 1)))), .second, (.val (.int (((((((0 + 1) + 1) + 1) + 1) + 1) + 1) + 1))), (.val (.int (0))), (.val (.int (4 - 3))), (.val (.int (((3 - 1) + (-1)) + (-1)))), (.val (.int (0))), (.val (.int (4 - 3))), (.val (.int (0))), (.val (.long ((XT.ushrL (Int64.ofNat t2.1) (((3 - 1) + (-1)) + (-1))) &&& 1))), .second] [] [.inl ("com/example/reshelve/reshelve/service/sort/ZCurve", [(("com/example/reshelve/reshelve/service/sort/ZCurve", "dimensions", "I"), (.int (3))), (("com/example/reshelve/reshelve/service/sort/ZCurve", "bits", "I"), (.int (3))), (("com/example/reshelve/reshelve/service/sort/ZCurve", "words", "I"), (.int (1)))]), .inr (.long, [(.long (Int64.ofNat t1.1)), (.long (Int64.ofNat t2.1)), (.long (Int64.ofNat t3.1))]), .inr (.long, [(.long (0))])] _ _ _
      refine W.iload d3_71 rfl ?_
      refine W.bipush 64 d3_73 rfl ?_
      refine W.icmp_ne d3_75 (fun h75 => ?_) (fun h => False.elim (by revert h; decide))
      refine W.iload d3_89 rfl ?_
      refine W.lload d3_91 rfl ?_
      refine W.l2i d3_93 ?_
      refine W.iadd d3_94 ?_
      refine W.istore d3_95 rfl ?_
      refine W.iload d3_97 rfl ?_
      refine W.iconst 1 d3_99 rfl ?_
      refine W.iadd d3_100 ?_
      refine W.aloadN d3_101 rfl rfl ?_
      refine W.getfield 0 d3_102 (hw _ (wd 10 rfl)) rfl rfl ?_
      refine W.icmp_ne d3_105 (fun h105 => ?_) (fun h => False.elim (by revert h; decide))
      refine W.iload d3_112 rfl ?_
      refine W.iconst 1 d3_114 rfl ?_
      refine W.iadd d3_115 ?_
      refine W.istore d3_116 rfl ?_
      refine W.iinc 1 d3_118 rfl rfl ?_
      refine W.goto d3_121 ?_
      show W l Z n m3 41 [(.val (.ref 0)), (.val (.ref 1)), (.val (.ref 2)), (.val (.long (((((((((((((((0 : Int64) <<< ((1 : Int32) &&& 0x3f).toInt64) ||| ((XT.ushrL (Int64.ofNat t1.1) (3 - 1)) &&& 1)) <<< ((1 : Int32) &&& 0x3f).toInt64) ||| ((XT.ushrL (Int64.ofNat t2.1) (3 - 1)) &&& 1)) <<< ((1 : Int32) &&& 0x3f).toInt64) ||| ((XT.ushrL (Int64.ofNat t3.1) (3 - 1)) &&& 1)) <<< ((1 : Int32) &&& 0x3f).toInt64) ||| ((XT.ushrL (Int64.ofNat t2.1) ((3 - 1) + (-1))) &&& 1)) <<< ((1 : Int32) &&& 0x3f).toInt64) ||| ((XT.ushrL (Int64.ofNat t3.1) ((3 - 1) + (-1))) &&& 1)) <<< ((1 : Int32) &&& 0x3f).toInt64) ||| ((XT.ushrL (Int64.ofNat t1.1) ((3 - 1) + (-1))) &&& 1)) <<< ((1 : Int32) &&& 0x3f).toInt64) ||| ((XT.ushrL (Int64.ofNat t2.1) (((3 - 1) + (-1)) + (-1))) &&& 1)))), .second, (.val (.int (((((((0 + 1) + 1) + 1) + 1) + 1) + 1) + 1))), (.val (.int (0))), (.val (.int (4 - 3))), (.val (.int (((3 - 1) + (-1)) + (-1)))), (.val (.int (0 + (((XT.ushrL (Int64.ofNat t2.1) (((3 - 1) + (-1)) + (-1))) &&& 1).toInt32)))), (.val (.int ((4 - 3) + 1))), (.val (.int (0 + 1))), (.val (.long ((XT.ushrL (Int64.ofNat t2.1) (((3 - 1) + (-1)) + (-1))) &&& 1))), .second] [] [.inl ("com/example/reshelve/reshelve/service/sort/ZCurve", [(("com/example/reshelve/reshelve/service/sort/ZCurve", "dimensions", "I"), (.int (3))), (("com/example/reshelve/reshelve/service/sort/ZCurve", "bits", "I"), (.int (3))), (("com/example/reshelve/reshelve/service/sort/ZCurve", "words", "I"), (.int (1)))]), .inr (.long, [(.long (Int64.ofNat t1.1)), (.long (Int64.ofNat t2.1)), (.long (Int64.ofNat t3.1))]), .inr (.long, [(.long (0))])] _ _ _
      refine W.iload d3_41 rfl ?_
      refine W.aloadN d3_43 rfl rfl ?_
      refine W.getfield 0 d3_44 (hw _ (wd 10 rfl)) rfl rfl ?_
      refine W.icmp_ge d3_47 (fun h => False.elim (by revert h; decide)) (fun h47 => ?_)
      refine W.aloadN d3_50 rfl rfl ?_
      refine W.iload d3_51 rfl ?_
      refine W.laload (i := 2) d3_53 rfl ⟨by decide, by decide⟩ rfl ?_
      refine W.iload d3_54 rfl ?_
      refine W.lushr d3_56 ?_
      refine W.lconst 1 d3_57 rfl ?_
      refine W.land d3_58 ?_
      refine W.lstore d3_59 rfl ?_
      show WB _ l Z n m3 61 [(.val (.ref 0)), (.val (.ref 1)), (.val (.ref 2)), (.val (.long (((((((((((((((0 : Int64) <<< ((1 : Int32) &&& 0x3f).toInt64) ||| ((XT.ushrL (Int64.ofNat t1.1) (3 - 1)) &&& 1)) <<< ((1 : Int32) &&& 0x3f).toInt64) ||| ((XT.ushrL (Int64.ofNat t2.1) (3 - 1)) &&& 1)) <<< ((1 : Int32) &&& 0x3f).toInt64) ||| ((XT.ushrL (Int64.ofNat t3.1) (3 - 1)) &&& 1)) <<< ((1 : Int32) &&& 0x3f).toInt64) ||| ((XT.ushrL (Int64.ofNat t2.1) ((3 - 1) + (-1))) &&& 1)) <<< ((1 : Int32) &&& 0x3f).toInt64) ||| ((XT.ushrL (Int64.ofNat t3.1) ((3 - 1) + (-1))) &&& 1)) <<< ((1 : Int32) &&& 0x3f).toInt64) ||| ((XT.ushrL (Int64.ofNat t1.1) ((3 - 1) + (-1))) &&& 1)) <<< ((1 : Int32) &&& 0x3f).toInt64) ||| ((XT.ushrL (Int64.ofNat t2.1) (((3 - 1) + (-1)) + (-1))) &&& 1)))), .second, (.val (.int (((((((0 + 1) + 1) + 1) + 1) + 1) + 1) + 1))), (.val (.int (0))), (.val (.int (4 - 3))), (.val (.int (((3 - 1) + (-1)) + (-1)))), (.val (.int (0 + (((XT.ushrL (Int64.ofNat t2.1) (((3 - 1) + (-1)) + (-1))) &&& 1).toInt32)))), (.val (.int ((4 - 3) + 1))), (.val (.int (0 + 1))), (.val (.long ((XT.ushrL (Int64.ofNat t3.1) (((3 - 1) + (-1)) + (-1))) &&& 1))), .second] [] [.inl ("com/example/reshelve/reshelve/service/sort/ZCurve", [(("com/example/reshelve/reshelve/service/sort/ZCurve", "dimensions", "I"), (.int (3))), (("com/example/reshelve/reshelve/service/sort/ZCurve", "bits", "I"), (.int (3))), (("com/example/reshelve/reshelve/service/sort/ZCurve", "words", "I"), (.int (1)))]), .inr (.long, [(.long (Int64.ofNat t1.1)), (.long (Int64.ofNat t2.1)), (.long (Int64.ofNat t3.1))]), .inr (.long, [(.long (0))])] _ _ _
      refine W.lloadN d3_61 rfl ?_
      refine W.iconst 1 d3_62 rfl ?_
      refine W.lshl d3_63 ?_
      refine W.lload d3_64 rfl ?_
      refine W.lor d3_66 ?_
      refine W.lstoreN d3_67 rfl ?_
      refine W.iinc 1 d3_68 rfl rfl ?_
      refine W.iload d3_71 rfl ?_
      refine W.bipush 64 d3_73 rfl ?_
      refine W.icmp_ne d3_75 (fun h75 => ?_) (fun h => False.elim (by revert h; decide))
      refine W.iload d3_89 rfl ?_
      refine W.lload d3_91 rfl ?_
      refine W.l2i d3_93 ?_
      refine W.iadd d3_94 ?_
      refine W.istore d3_95 rfl ?_
      refine W.iload d3_97 rfl ?_
      refine W.iconst 1 d3_99 rfl ?_
      refine W.iadd d3_100 ?_
      refine W.aloadN d3_101 rfl rfl ?_
      refine W.getfield 0 d3_102 (hw _ (wd 10 rfl)) rfl rfl ?_
      refine W.icmp_ne d3_105 (fun h => False.elim (by revert h; decide)) (fun h105 => ?_)
      refine W.iconst 0 d3_108 rfl ?_
      refine W.goto d3_109 ?_
      refine W.istore d3_116 rfl ?_
      show WB _ l Z n m3 118 [(.val (.ref 0)), (.val (.ref 1)), (.val (.ref 2)), (.val (.long (((((((((((((((((0 : Int64) <<< ((1 : Int32) &&& 0x3f).toInt64) ||| ((XT.ushrL (Int64.ofNat t1.1) (3 - 1)) &&& 1)) <<< ((1 : Int32) &&& 0x3f).toInt64) ||| ((XT.ushrL (Int64.ofNat t2.1) (3 - 1)) &&& 1)) <<< ((1 : Int32) &&& 0x3f).toInt64) ||| ((XT.ushrL (Int64.ofNat t3.1) (3 - 1)) &&& 1)) <<< ((1 : Int32) &&& 0x3f).toInt64) ||| ((XT.ushrL (Int64.ofNat t2.1) ((3 - 1) + (-1))) &&& 1)) <<< ((1 : Int32) &&& 0x3f).toInt64) ||| ((XT.ushrL (Int64.ofNat t3.1) ((3 - 1) + (-1))) &&& 1)) <<< ((1 : Int32) &&& 0x3f).toInt64) ||| ((XT.ushrL (Int64.ofNat t1.1) ((3 - 1) + (-1))) &&& 1)) <<< ((1 : Int32) &&& 0x3f).toInt64) ||| ((XT.ushrL (Int64.ofNat t2.1) (((3 - 1) + (-1)) + (-1))) &&& 1)) <<< ((1 : Int32) &&& 0x3f).toInt64) ||| ((XT.ushrL (Int64.ofNat t3.1) (((3 - 1) + (-1)) + (-1))) &&& 1)))), .second, (.val (.int ((((((((0 + 1) + 1) + 1) + 1) + 1) + 1) + 1) + 1))), (.val (.int (0))), (.val (.int (4 - 3))), (.val (.int (((3 - 1) + (-1)) + (-1)))), (.val (.int ((0 + (((XT.ushrL (Int64.ofNat t2.1) (((3 - 1) + (-1)) + (-1))) &&& 1).toInt32)) + (((XT.ushrL (Int64.ofNat t3.1) (((3 - 1) + (-1)) + (-1))) &&& 1).toInt32)))), (.val (.int (0))), (.val (.int (0 + 1))), (.val (.long ((XT.ushrL (Int64.ofNat t3.1) (((3 - 1) + (-1)) + (-1))) &&& 1))), .second] [] [.inl ("com/example/reshelve/reshelve/service/sort/ZCurve", [(("com/example/reshelve/reshelve/service/sort/ZCurve", "dimensions", "I"), (.int (3))), (("com/example/reshelve/reshelve/service/sort/ZCurve", "bits", "I"), (.int (3))), (("com/example/reshelve/reshelve/service/sort/ZCurve", "words", "I"), (.int (1)))]), .inr (.long, [(.long (Int64.ofNat t1.1)), (.long (Int64.ofNat t2.1)), (.long (Int64.ofNat t3.1))]), .inr (.long, [(.long (0))])] _ _ _
      refine W.iinc 1 d3_118 rfl rfl ?_
      refine W.goto d3_121 ?_
      show W l Z n m3 41 [(.val (.ref 0)), (.val (.ref 1)), (.val (.ref 2)), (.val (.long (((((((((((((((((0 : Int64) <<< ((1 : Int32) &&& 0x3f).toInt64) ||| ((XT.ushrL (Int64.ofNat t1.1) (3 - 1)) &&& 1)) <<< ((1 : Int32) &&& 0x3f).toInt64) ||| ((XT.ushrL (Int64.ofNat t2.1) (3 - 1)) &&& 1)) <<< ((1 : Int32) &&& 0x3f).toInt64) ||| ((XT.ushrL (Int64.ofNat t3.1) (3 - 1)) &&& 1)) <<< ((1 : Int32) &&& 0x3f).toInt64) ||| ((XT.ushrL (Int64.ofNat t2.1) ((3 - 1) + (-1))) &&& 1)) <<< ((1 : Int32) &&& 0x3f).toInt64) ||| ((XT.ushrL (Int64.ofNat t3.1) ((3 - 1) + (-1))) &&& 1)) <<< ((1 : Int32) &&& 0x3f).toInt64) ||| ((XT.ushrL (Int64.ofNat t1.1) ((3 - 1) + (-1))) &&& 1)) <<< ((1 : Int32) &&& 0x3f).toInt64) ||| ((XT.ushrL (Int64.ofNat t2.1) (((3 - 1) + (-1)) + (-1))) &&& 1)) <<< ((1 : Int32) &&& 0x3f).toInt64) ||| ((XT.ushrL (Int64.ofNat t3.1) (((3 - 1) + (-1)) + (-1))) &&& 1)))), .second, (.val (.int ((((((((0 + 1) + 1) + 1) + 1) + 1) + 1) + 1) + 1))), (.val (.int (0))), (.val (.int (4 - 3))), (.val (.int (((3 - 1) + (-1)) + (-1)))), (.val (.int ((0 + (((XT.ushrL (Int64.ofNat t2.1) (((3 - 1) + (-1)) + (-1))) &&& 1).toInt32)) + (((XT.ushrL (Int64.ofNat t3.1) (((3 - 1) + (-1)) + (-1))) &&& 1).toInt32)))), (.val (.int (0))), (.val (.int ((0 + 1) + 1))), (.val (.long ((XT.ushrL (Int64.ofNat t3.1) (((3 - 1) + (-1)) + (-1))) &&& 1))), .second] [] [.inl ("com/example/reshelve/reshelve/service/sort/ZCurve", [(("com/example/reshelve/reshelve/service/sort/ZCurve", "dimensions", "I"), (.int (3))), (("com/example/reshelve/reshelve/service/sort/ZCurve", "bits", "I"), (.int (3))), (("com/example/reshelve/reshelve/service/sort/ZCurve", "words", "I"), (.int (1)))]), .inr (.long, [(.long (Int64.ofNat t1.1)), (.long (Int64.ofNat t2.1)), (.long (Int64.ofNat t3.1))]), .inr (.long, [(.long (0))])] _ _ _
      refine W.iload d3_41 rfl ?_
      refine W.aloadN d3_43 rfl rfl ?_
      refine W.getfield 0 d3_44 (hw _ (wd 10 rfl)) rfl rfl ?_
      refine W.icmp_ge d3_47 (fun h => False.elim (by revert h; decide)) (fun h47 => ?_)
      refine W.aloadN d3_50 rfl rfl ?_
      refine W.iload d3_51 rfl ?_
      refine W.laload (i := 0) d3_53 rfl ⟨by decide, by decide⟩ rfl ?_
      refine W.iload d3_54 rfl ?_
      refine W.lushr d3_56 ?_
      refine W.lconst 1 d3_57 rfl ?_
      refine W.land d3_58 ?_
      refine W.lstore d3_59 rfl ?_
      refine W.lloadN d3_61 rfl ?_
      refine W.iconst 1 d3_62 rfl ?_
      refine W.lshl d3_63 ?_
      refine W.lload d3_64 rfl ?_
      refine W.lor d3_66 ?_
      refine W.lstoreN d3_67 rfl ?_
      refine W.iinc 1 d3_68 rfl rfl ?_
      show WB _ l Z n m3 71 [(.val (.ref 0)), (.val (.ref 1)), (.val (.ref 2)), (.val (.long (((((((((((((((((((0 : Int64) <<< ((1 : Int32) &&& 0x3f).toInt64) ||| ((XT.ushrL (Int64.ofNat t1.1) (3 - 1)) &&& 1)) <<< ((1 : Int32) &&& 0x3f).toInt64) ||| ((XT.ushrL (Int64.ofNat t2.1) (3 - 1)) &&& 1)) <<< ((1 : Int32) &&& 0x3f).toInt64) ||| ((XT.ushrL (Int64.ofNat t3.1) (3 - 1)) &&& 1)) <<< ((1 : Int32) &&& 0x3f).toInt64) ||| ((XT.ushrL (Int64.ofNat t2.1) ((3 - 1) + (-1))) &&& 1)) <<< ((1 : Int32) &&& 0x3f).toInt64) ||| ((XT.ushrL (Int64.ofNat t3.1) ((3 - 1) + (-1))) &&& 1)) <<< ((1 : Int32) &&& 0x3f).toInt64) ||| ((XT.ushrL (Int64.ofNat t1.1) ((3 - 1) + (-1))) &&& 1)) <<< ((1 : Int32) &&& 0x3f).toInt64) ||| ((XT.ushrL (Int64.ofNat t2.1) (((3 - 1) + (-1)) + (-1))) &&& 1)) <<< ((1 : Int32) &&& 0x3f).toInt64) ||| ((XT.ushrL (Int64.ofNat t3.1) (((3 - 1) + (-1)) + (-1))) &&& 1)) <<< ((1 : Int32) &&& 0x3f).toInt64) ||| ((XT.ushrL (Int64.ofNat t1.1) (((3 - 1) + (-1)) + (-1))) &&& 1)))), .second, (.val (.int (((((((((0 + 1) + 1) + 1) + 1) + 1) + 1) + 1) + 1) + 1))), (.val (.int (0))), (.val (.int (4 - 3))), (.val (.int (((3 - 1) + (-1)) + (-1)))), (.val (.int ((0 + (((XT.ushrL (Int64.ofNat t2.1) (((3 - 1) + (-1)) + (-1))) &&& 1).toInt32)) + (((XT.ushrL (Int64.ofNat t3.1) (((3 - 1) + (-1)) + (-1))) &&& 1).toInt32)))), (.val (.int (0))), (.val (.int ((0 + 1) + 1))), (.val (.long ((XT.ushrL (Int64.ofNat t1.1) (((3 - 1) + (-1)) + (-1))) &&& 1))), .second] [] [.inl ("com/example/reshelve/reshelve/service/sort/ZCurve", [(("com/example/reshelve/reshelve/service/sort/ZCurve", "dimensions", "I"), (.int (3))), (("com/example/reshelve/reshelve/service/sort/ZCurve", "bits", "I"), (.int (3))), (("com/example/reshelve/reshelve/service/sort/ZCurve", "words", "I"), (.int (1)))]), .inr (.long, [(.long (Int64.ofNat t1.1)), (.long (Int64.ofNat t2.1)), (.long (Int64.ofNat t3.1))]), .inr (.long, [(.long (0))])] _ _ _
      refine W.iload d3_71 rfl ?_
      refine W.bipush 64 d3_73 rfl ?_
      refine W.icmp_ne d3_75 (fun h75 => ?_) (fun h => False.elim (by revert h; decide))
      refine W.iload d3_89 rfl ?_
      refine W.lload d3_91 rfl ?_
      refine W.l2i d3_93 ?_
      refine W.iadd d3_94 ?_
      refine W.istore d3_95 rfl ?_
      refine W.iload d3_97 rfl ?_
      refine W.iconst 1 d3_99 rfl ?_
      refine W.iadd d3_100 ?_
      refine W.aloadN d3_101 rfl rfl ?_
      refine W.getfield 0 d3_102 (hw _ (wd 10 rfl)) rfl rfl ?_
      refine W.icmp_ne d3_105 (fun h105 => ?_) (fun h => False.elim (by revert h; decide))
      refine W.iload d3_112 rfl ?_
      refine W.iconst 1 d3_114 rfl ?_
      refine W.iadd d3_115 ?_
      refine W.istore d3_116 rfl ?_
      refine W.iinc 1 d3_118 rfl rfl ?_
      refine W.goto d3_121 ?_
      show W l Z n m3 41 [(.val (.ref 0)), (.val (.ref 1)), (.val (.ref 2)), (.val (.long (((((((((((((((((((0 : Int64) <<< ((1 : Int32) &&& 0x3f).toInt64) ||| ((XT.ushrL (Int64.ofNat t1.1) (3 - 1)) &&& 1)) <<< ((1 : Int32) &&& 0x3f).toInt64) ||| ((XT.ushrL (Int64.ofNat t2.1) (3 - 1)) &&& 1)) <<< ((1 : Int32) &&& 0x3f).toInt64) ||| ((XT.ushrL (Int64.ofNat t3.1) (3 - 1)) &&& 1)) <<< ((1 : Int32) &&& 0x3f).toInt64) ||| ((XT.ushrL (Int64.ofNat t2.1) ((3 - 1) + (-1))) &&& 1)) <<< ((1 : Int32) &&& 0x3f).toInt64) ||| ((XT.ushrL (Int64.ofNat t3.1) ((3 - 1) + (-1))) &&& 1)) <<< ((1 : Int32) &&& 0x3f).toInt64) ||| ((XT.ushrL (Int64.ofNat t1.1) ((3 - 1) + (-1))) &&& 1)) <<< ((1 : Int32) &&& 0x3f).toInt64) ||| ((XT.ushrL (Int64.ofNat t2.1) (((3 - 1) + (-1)) + (-1))) &&& 1)) <<< ((1 : Int32) &&& 0x3f).toInt64) ||| ((XT.ushrL (Int64.ofNat t3.1) (((3 - 1) + (-1)) + (-1))) &&& 1)) <<< ((1 : Int32) &&& 0x3f).toInt64) ||| ((XT.ushrL (Int64.ofNat t1.1) (((3 - 1) + (-1)) + (-1))) &&& 1)))), .second, (.val (.int (((((((((0 + 1) + 1) + 1) + 1) + 1) + 1) + 1) + 1) + 1))), (.val (.int (0))), (.val (.int (4 - 3))), (.val (.int (((3 - 1) + (-1)) + (-1)))), (.val (.int (((0 + (((XT.ushrL (Int64.ofNat t2.1) (((3 - 1) + (-1)) + (-1))) &&& 1).toInt32)) + (((XT.ushrL (Int64.ofNat t3.1) (((3 - 1) + (-1)) + (-1))) &&& 1).toInt32)) + (((XT.ushrL (Int64.ofNat t1.1) (((3 - 1) + (-1)) + (-1))) &&& 1).toInt32)))), (.val (.int (0 + 1))), (.val (.int (((0 + 1) + 1) + 1))), (.val (.long ((XT.ushrL (Int64.ofNat t1.1) (((3 - 1) + (-1)) + (-1))) &&& 1))), .second] [] [.inl ("com/example/reshelve/reshelve/service/sort/ZCurve", [(("com/example/reshelve/reshelve/service/sort/ZCurve", "dimensions", "I"), (.int (3))), (("com/example/reshelve/reshelve/service/sort/ZCurve", "bits", "I"), (.int (3))), (("com/example/reshelve/reshelve/service/sort/ZCurve", "words", "I"), (.int (1)))]), .inr (.long, [(.long (Int64.ofNat t1.1)), (.long (Int64.ofNat t2.1)), (.long (Int64.ofNat t3.1))]), .inr (.long, [(.long (0))])] _ _ _
      refine W.iload d3_41 rfl ?_
      refine W.aloadN d3_43 rfl rfl ?_
      refine W.getfield 0 d3_44 (hw _ (wd 10 rfl)) rfl rfl ?_
      refine W.icmp_ge d3_47 (fun h47 => ?_) (fun h => False.elim (by revert h; decide))
      refine W.iload d3_124 rfl ?_
      refine W.iload d3_126 rfl ?_
      refine W.iadd d3_128 ?_
      refine W.istore d3_129 rfl ?_
      show WB _ l Z n m3 131 [(.val (.ref 0)), (.val (.ref 1)), (.val (.ref 2)), (.val (.long (((((((((((((((((((0 : Int64) <<< ((1 : Int32) &&& 0x3f).toInt64) ||| ((XT.ushrL (Int64.ofNat t1.1) (3 - 1)) &&& 1)) <<< ((1 : Int32) &&& 0x3f).toInt64) ||| ((XT.ushrL (Int64.ofNat t2.1) (3 - 1)) &&& 1)) <<< ((1 : Int32) &&& 0x3f).toInt64) ||| ((XT.ushrL (Int64.ofNat t3.1) (3 - 1)) &&& 1)) <<< ((1 : Int32) &&& 0x3f).toInt64) ||| ((XT.ushrL (Int64.ofNat t2.1) ((3 - 1) + (-1))) &&& 1)) <<< ((1 : Int32) &&& 0x3f).toInt64) ||| ((XT.ushrL (Int64.ofNat t3.1) ((3 - 1) + (-1))) &&& 1)) <<< ((1 : Int32) &&& 0x3f).toInt64) ||| ((XT.ushrL (Int64.ofNat t1.1) ((3 - 1) + (-1))) &&& 1)) <<< ((1 : Int32) &&& 0x3f).toInt64) ||| ((XT.ushrL (Int64.ofNat t2.1) (((3 - 1) + (-1)) + (-1))) &&& 1)) <<< ((1 : Int32) &&& 0x3f).toInt64) ||| ((XT.ushrL (Int64.ofNat t3.1) (((3 - 1) + (-1)) + (-1))) &&& 1)) <<< ((1 : Int32) &&& 0x3f).toInt64) ||| ((XT.ushrL (Int64.ofNat t1.1) (((3 - 1) + (-1)) + (-1))) &&& 1)))), .second, (.val (.int (((((((((0 + 1) + 1) + 1) + 1) + 1) + 1) + 1) + 1) + 1))), (.val (.int (0))), (.val (.int ((4 - 3) + (((0 + (((XT.ushrL (Int64.ofNat t2.1) (((3 - 1) + (-1)) + (-1))) &&& 1).toInt32)) + (((XT.ushrL (Int64.ofNat t3.1) (((3 - 1) + (-1)) + (-1))) &&& 1).toInt32)) + (((XT.ushrL (Int64.ofNat t1.1) (((3 - 1) + (-1)) + (-1))) &&& 1).toInt32))))), (.val (.int (((3 - 1) + (-1)) + (-1)))), (.val (.int (((0 + (((XT.ushrL (Int64.ofNat t2.1) (((3 - 1) + (-1)) + (-1))) &&& 1).toInt32)) + (((XT.ushrL (Int64.ofNat t3.1) (((3 - 1) + (-1)) + (-1))) &&& 1).toInt32)) + (((XT.ushrL (Int64.ofNat t1.1) (((3 - 1) + (-1)) + (-1))) &&& 1).toInt32)))), (.val (.int (0 + 1))), (.val (.int (((0 + 1) + 1) + 1))), (.val (.long ((XT.ushrL (Int64.ofNat t1.1) (((3 - 1) + (-1)) + (-1))) &&& 1))), .second] [] [.inl ("com/example/reshelve/reshelve/service/sort/ZCurve", [(("com/example/reshelve/reshelve/service/sort/ZCurve", "dimensions", "I"), (.int (3))), (("com/example/reshelve/reshelve/service/sort/ZCurve", "bits", "I"), (.int (3))), (("com/example/reshelve/reshelve/service/sort/ZCurve", "words", "I"), (.int (1)))]), .inr (.long, [(.long (Int64.ofNat t1.1)), (.long (Int64.ofNat t2.1)), (.long (Int64.ofNat t3.1))]), .inr (.long, [(.long (0))])] _ _ _
      refine W.iload d3_131 rfl ?_
      refine W.aloadN d3_133 rfl rfl ?_
      refine W.getfield 0 d3_134 (hw _ (wd 10 rfl)) rfl rfl ?_
      refine W.icmp_lt d3_137 (fun h137 => ?_) (fun h137 => ?_)
      · refine W.iinc (-1) d3_149 rfl rfl ?_
        refine W.goto d3_152 ?_
        refine W.iload d3_26 rfl ?_
        refine W.if_lt d3_28 (fun h28 => ?_) (fun h => False.elim (by revert h; decide))
        refine W.iload d3_155 rfl ?_
        refine W.if_le d3_157 (fun h => False.elim (by revert h; decide)) (fun h157 => ?_)
        refine W.aloadN d3_160 rfl rfl ?_
        refine W.iload d3_161 rfl ?_
        refine W.lloadN d3_163 rfl ?_
        refine W.bipush 64 d3_164 rfl ?_
        refine W.iload d3_166 rfl ?_
        refine W.isub d3_168 ?_
        refine W.lshl d3_169 ?_
        refine W.lastore (i := 0) d3_170 rfl ⟨by decide, by decide⟩ (by simp) ?_
        refine W.aloadN d3_171 rfl rfl ?_
        exact W.areturn d3_172 rfl rfl rfl (by decide) (by decide) (⟨rfl, by rw [own_k10 t1 t2 t3 q0 q1] <;> rfl⟩)
      · refine W.iload d3_140 rfl ?_
        refine W.aloadN d3_142 rfl rfl ?_
        refine W.getfield 0 d3_143 (hw _ (wd 10 rfl)) rfl rfl ?_
        refine W.isub d3_146 ?_
        refine W.istore d3_147 rfl ?_
        refine W.iinc (-1) d3_149 rfl rfl ?_
        refine W.goto d3_152 ?_
        refine W.iload d3_26 rfl ?_
        refine W.if_lt d3_28 (fun h28 => ?_) (fun h => False.elim (by revert h; decide))
        refine W.iload d3_155 rfl ?_
        refine W.if_le d3_157 (fun h => False.elim (by revert h; decide)) (fun h157 => ?_)
        refine W.aloadN d3_160 rfl rfl ?_
        refine W.iload d3_161 rfl ?_
        refine W.lloadN d3_163 rfl ?_
        refine W.bipush 64 d3_164 rfl ?_
        refine W.iload d3_166 rfl ?_
        refine W.isub d3_168 ?_
        refine W.lshl d3_169 ?_
        refine W.lastore (i := 0) d3_170 rfl ⟨by decide, by decide⟩ (by simp) ?_
        refine W.aloadN d3_171 rfl rfl ?_
        exact W.areturn d3_172 rfl rfl rfl (by decide) (by decide) (⟨rfl, by rw [own_k10 t1 t2 t3 q0 q1] <;> rfl⟩)
  · rw [q0]
    refine W.istore d3_129 rfl ?_
    refine W.iload d3_131 rfl ?_
    refine W.aloadN d3_133 rfl rfl ?_
    refine W.getfield 0 d3_134 (hw _ (wd 10 rfl)) rfl rfl ?_
    refine W.icmp_lt d3_137 (fun h137 => ?_) (fun h => False.elim (by revert h; decide))
    refine W.iinc (-1) d3_149 rfl rfl ?_
    refine W.goto d3_152 ?_
    refine W.iload d3_26 rfl ?_
    refine W.if_lt d3_28 (fun h => False.elim (by revert h; decide)) (fun h28 => ?_)
    refine W.iconst 0 d3_31 rfl ?_
    refine W.istore d3_32 rfl ?_
    refine W.iload d3_34 rfl ?_
    refine W.istore d3_36 rfl ?_
    show WB _ l Z n m3 38 [(.val (.ref 0)), (.val (.ref 1)), (.val (.ref 2)), (.val (.long (((((((0 : Int64) <<< ((1 : Int32) &&& 0x3f).toInt64) ||| ((XT.ushrL (Int64.ofNat t1.1) (3 - 1)) &&& 1)) <<< ((1 : Int32) &&& 0x3f).toInt64) ||| ((XT.ushrL (Int64.ofNat t2.1) (3 - 1)) &&& 1)) <<< ((1 : Int32) &&& 0x3f).toInt64) ||| ((XT.ushrL (Int64.ofNat t3.1) (3 - 1)) &&& 1)))), .second, (.val (.int (((0 + 1) + 1) + 1))), (.val (.int (0))), (.val (.int (2))), (.val (.int ((3 - 1) + (-1)))), (.val (.int (0))), (.val (.int (2))), (.val (.int (((0 + 1) + 1) + 1))), (.val (.long ((XT.ushrL (Int64.ofNat t3.1) (3 - 1)) &&& 1))), .second] [] [.inl ("com/example/reshelve/reshelve/service/sort/ZCurve", [(("com/example/reshelve/reshelve/service/sort/ZCurve", "dimensions", "I"), (.int (3))), (("com/example/reshelve/reshelve/service/sort/ZCurve", "bits", "I"), (.int (3))), (("com/example/reshelve/reshelve/service/sort/ZCurve", "words", "I"), (.int (1)))]), .inr (.long, [(.long (Int64.ofNat t1.1)), (.long (Int64.ofNat t2.1)), (.long (Int64.ofNat t3.1))]), .inr (.long, [(.long (0))])] _ _ _
    refine W.iconst 0 d3_38 rfl ?_
    refine W.istore d3_39 rfl ?_
    show W l Z n m3 41 [(.val (.ref 0)), (.val (.ref 1)), (.val (.ref 2)), (.val (.long (((((((0 : Int64) <<< ((1 : Int32) &&& 0x3f).toInt64) ||| ((XT.ushrL (Int64.ofNat t1.1) (3 - 1)) &&& 1)) <<< ((1 : Int32) &&& 0x3f).toInt64) ||| ((XT.ushrL (Int64.ofNat t2.1) (3 - 1)) &&& 1)) <<< ((1 : Int32) &&& 0x3f).toInt64) ||| ((XT.ushrL (Int64.ofNat t3.1) (3 - 1)) &&& 1)))), .second, (.val (.int (((0 + 1) + 1) + 1))), (.val (.int (0))), (.val (.int (2))), (.val (.int ((3 - 1) + (-1)))), (.val (.int (0))), (.val (.int (2))), (.val (.int (0))), (.val (.long ((XT.ushrL (Int64.ofNat t3.1) (3 - 1)) &&& 1))), .second] [] [.inl ("com/example/reshelve/reshelve/service/sort/ZCurve", [(("com/example/reshelve/reshelve/service/sort/ZCurve", "dimensions", "I"), (.int (3))), (("com/example/reshelve/reshelve/service/sort/ZCurve", "bits", "I"), (.int (3))), (("com/example/reshelve/reshelve/service/sort/ZCurve", "words", "I"), (.int (1)))]), .inr (.long, [(.long (Int64.ofNat t1.1)), (.long (Int64.ofNat t2.1)), (.long (Int64.ofNat t3.1))]), .inr (.long, [(.long (0))])] _ _ _
    refine W.iload d3_41 rfl ?_
    refine W.aloadN d3_43 rfl rfl ?_
    refine W.getfield 0 d3_44 (hw _ (wd 10 rfl)) rfl rfl ?_
    refine W.icmp_ge d3_47 (fun h => False.elim (by revert h; decide)) (fun h47 => ?_)
    refine W.aloadN d3_50 rfl rfl ?_
    refine W.iload d3_51 rfl ?_
    refine W.laload (i := 2) d3_53 rfl ⟨by decide, by decide⟩ rfl ?_
    refine W.iload d3_54 rfl ?_
    refine W.lushr d3_56 ?_
    refine W.lconst 1 d3_57 rfl ?_
    refine W.land d3_58 ?_
    refine W.lstore d3_59 rfl ?_
    refine W.lloadN d3_61 rfl ?_
    refine W.iconst 1 d3_62 rfl ?_
    refine W.lshl d3_63 ?_
    refine W.lload d3_64 rfl ?_
    refine W.lor d3_66 ?_
    refine W.lstoreN d3_67 rfl ?_
    refine W.iinc 1 d3_68 rfl rfl ?_
    show WB _ l Z n m3 71 [(.val (.ref 0)), (.val (.ref 1)), (.val (.ref 2)), (.val (.long (((((((((0 : Int64) <<< ((1 : Int32) &&& 0x3f).toInt64) ||| ((XT.ushrL (Int64.ofNat t1.1) (3 - 1)) &&& 1)) <<< ((1 : Int32) &&& 0x3f).toInt64) ||| ((XT.ushrL (Int64.ofNat t2.1) (3 - 1)) &&& 1)) <<< ((1 : Int32) &&& 0x3f).toInt64) ||| ((XT.ushrL (Int64.ofNat t3.1) (3 - 1)) &&& 1)) <<< ((1 : Int32) &&& 0x3f).toInt64) ||| ((XT.ushrL (Int64.ofNat t3.1) ((3 - 1) + (-1))) &&& 1)))), .second, (.val (.int ((((0 + 1) + 1) + 1) + 1))), (.val (.int (0))), (.val (.int (2))), (.val (.int ((3 - 1) + (-1)))), (.val (.int (0))), (.val (.int (2))), (.val (.int (0))), (.val (.long ((XT.ushrL (Int64.ofNat t3.1) ((3 - 1) + (-1))) &&& 1))), .second] [] [.inl ("com/example/reshelve/reshelve/service/sort/ZCurve", [(("com/example/reshelve/reshelve/service/sort/ZCurve", "dimensions", "I"), (.int (3))), (("com/example/reshelve/reshelve/service/sort/ZCurve", "bits", "I"), (.int (3))), (("com/example/reshelve/reshelve/service/sort/ZCurve", "words", "I"), (.int (1)))]), .inr (.long, [(.long (Int64.ofNat t1.1)), (.long (Int64.ofNat t2.1)), (.long (Int64.ofNat t3.1))]), .inr (.long, [(.long (0))])] _ _ _
    refine W.iload d3_71 rfl ?_
    refine W.bipush 64 d3_73 rfl ?_
    refine W.icmp_ne d3_75 (fun h75 => ?_) (fun h => False.elim (by revert h; decide))
    refine W.iload d3_89 rfl ?_
    refine W.lload d3_91 rfl ?_
    refine W.l2i d3_93 ?_
    refine W.iadd d3_94 ?_
    refine W.istore d3_95 rfl ?_
    refine W.iload d3_97 rfl ?_
    refine W.iconst 1 d3_99 rfl ?_
    refine W.iadd d3_100 ?_
    refine W.aloadN d3_101 rfl rfl ?_
    refine W.getfield 0 d3_102 (hw _ (wd 10 rfl)) rfl rfl ?_
    refine W.icmp_ne d3_105 (fun h => False.elim (by revert h; decide)) (fun h105 => ?_)
    refine W.iconst 0 d3_108 rfl ?_
    refine W.goto d3_109 ?_
    refine W.istore d3_116 rfl ?_
    refine W.iinc 1 d3_118 rfl rfl ?_
    refine W.goto d3_121 ?_
    show W l Z n m3 41 [(.val (.ref 0)), (.val (.ref 1)), (.val (.ref 2)), (.val (.long (((((((((0 : Int64) <<< ((1 : Int32) &&& 0x3f).toInt64) ||| ((XT.ushrL (Int64.ofNat t1.1) (3 - 1)) &&& 1)) <<< ((1 : Int32) &&& 0x3f).toInt64) ||| ((XT.ushrL (Int64.ofNat t2.1) (3 - 1)) &&& 1)) <<< ((1 : Int32) &&& 0x3f).toInt64) ||| ((XT.ushrL (Int64.ofNat t3.1) (3 - 1)) &&& 1)) <<< ((1 : Int32) &&& 0x3f).toInt64) ||| ((XT.ushrL (Int64.ofNat t3.1) ((3 - 1) + (-1))) &&& 1)))), .second, (.val (.int ((((0 + 1) + 1) + 1) + 1))), (.val (.int (0))), (.val (.int (2))), (.val (.int ((3 - 1) + (-1)))), (.val (.int (0 + (((XT.ushrL (Int64.ofNat t3.1) ((3 - 1) + (-1))) &&& 1).toInt32)))), (.val (.int (0))), (.val (.int (0 + 1))), (.val (.long ((XT.ushrL (Int64.ofNat t3.1) ((3 - 1) + (-1))) &&& 1))), .second] [] [.inl ("com/example/reshelve/reshelve/service/sort/ZCurve", [(("com/example/reshelve/reshelve/service/sort/ZCurve", "dimensions", "I"), (.int (3))), (("com/example/reshelve/reshelve/service/sort/ZCurve", "bits", "I"), (.int (3))), (("com/example/reshelve/reshelve/service/sort/ZCurve", "words", "I"), (.int (1)))]), .inr (.long, [(.long (Int64.ofNat t1.1)), (.long (Int64.ofNat t2.1)), (.long (Int64.ofNat t3.1))]), .inr (.long, [(.long (0))])] _ _ _
    refine W.iload d3_41 rfl ?_
    refine W.aloadN d3_43 rfl rfl ?_
    refine W.getfield 0 d3_44 (hw _ (wd 10 rfl)) rfl rfl ?_
    refine W.icmp_ge d3_47 (fun h => False.elim (by revert h; decide)) (fun h47 => ?_)
    refine W.aloadN d3_50 rfl rfl ?_
    refine W.iload d3_51 rfl ?_
    refine W.laload (i := 0) d3_53 rfl ⟨by decide, by decide⟩ rfl ?_
    refine W.iload d3_54 rfl ?_
    refine W.lushr d3_56 ?_
    refine W.lconst 1 d3_57 rfl ?_
    refine W.land d3_58 ?_
    refine W.lstore d3_59 rfl ?_
    show WB _ l Z n m3 61 [(.val (.ref 0)), (.val (.ref 1)), (.val (.ref 2)), (.val (.long (((((((((0 : Int64) <<< ((1 : Int32) &&& 0x3f).toInt64) ||| ((XT.ushrL (Int64.ofNat t1.1) (3 - 1)) &&& 1)) <<< ((1 : Int32) &&& 0x3f).toInt64) ||| ((XT.ushrL (Int64.ofNat t2.1) (3 - 1)) &&& 1)) <<< ((1 : Int32) &&& 0x3f).toInt64) ||| ((XT.ushrL (Int64.ofNat t3.1) (3 - 1)) &&& 1)) <<< ((1 : Int32) &&& 0x3f).toInt64) ||| ((XT.ushrL (Int64.ofNat t3.1) ((3 - 1) + (-1))) &&& 1)))), .second, (.val (.int ((((0 + 1) + 1) + 1) + 1))), (.val (.int (0))), (.val (.int (2))), (.val (.int ((3 - 1) + (-1)))), (.val (.int (0 + (((XT.ushrL (Int64.ofNat t3.1) ((3 - 1) + (-1))) &&& 1).toInt32)))), (.val (.int (0))), (.val (.int (0 + 1))), (.val (.long ((XT.ushrL (Int64.ofNat t1.1) ((3 - 1) + (-1))) &&& 1))), .second] [] [.inl ("com/example/reshelve/reshelve/service/sort/ZCurve", [(("com/example/reshelve/reshelve/service/sort/ZCurve", "dimensions", "I"), (.int (3))), (("com/example/reshelve/reshelve/service/sort/ZCurve", "bits", "I"), (.int (3))), (("com/example/reshelve/reshelve/service/sort/ZCurve", "words", "I"), (.int (1)))]), .inr (.long, [(.long (Int64.ofNat t1.1)), (.long (Int64.ofNat t2.1)), (.long (Int64.ofNat t3.1))]), .inr (.long, [(.long (0))])] _ _ _
    refine W.lloadN d3_61 rfl ?_
    refine W.iconst 1 d3_62 rfl ?_
    refine W.lshl d3_63 ?_
    refine W.lload d3_64 rfl ?_
    refine W.lor d3_66 ?_
    refine W.lstoreN d3_67 rfl ?_
    refine W.iinc 1 d3_68 rfl rfl ?_
    refine W.iload d3_71 rfl ?_
    refine W.bipush 64 d3_73 rfl ?_
    refine W.icmp_ne d3_75 (fun h75 => ?_) (fun h => False.elim (by revert h; decide))
    refine W.iload d3_89 rfl ?_
    refine W.lload d3_91 rfl ?_
    refine W.l2i d3_93 ?_
    refine W.iadd d3_94 ?_
    refine W.istore d3_95 rfl ?_
    refine W.iload d3_97 rfl ?_
    refine W.iconst 1 d3_99 rfl ?_
    refine W.iadd d3_100 ?_
    refine W.aloadN d3_101 rfl rfl ?_
    refine W.getfield 0 d3_102 (hw _ (wd 10 rfl)) rfl rfl ?_
    refine W.icmp_ne d3_105 (fun h105 => ?_) (fun h => False.elim (by revert h; decide))
    refine W.iload d3_112 rfl ?_
    refine W.iconst 1 d3_114 rfl ?_
    refine W.iadd d3_115 ?_
    refine W.istore d3_116 rfl ?_
    show WB _ l Z n m3 118 [(.val (.ref 0)), (.val (.ref 1)), (.val (.ref 2)), (.val (.long (((((((((((0 : Int64) <<< ((1 : Int32) &&& 0x3f).toInt64) ||| ((XT.ushrL (Int64.ofNat t1.1) (3 - 1)) &&& 1)) <<< ((1 : Int32) &&& 0x3f).toInt64) ||| ((XT.ushrL (Int64.ofNat t2.1) (3 - 1)) &&& 1)) <<< ((1 : Int32) &&& 0x3f).toInt64) ||| ((XT.ushrL (Int64.ofNat t3.1) (3 - 1)) &&& 1)) <<< ((1 : Int32) &&& 0x3f).toInt64) ||| ((XT.ushrL (Int64.ofNat t3.1) ((3 - 1) + (-1))) &&& 1)) <<< ((1 : Int32) &&& 0x3f).toInt64) ||| ((XT.ushrL (Int64.ofNat t1.1) ((3 - 1) + (-1))) &&& 1)))), .second, (.val (.int (((((0 + 1) + 1) + 1) + 1) + 1))), (.val (.int (0))), (.val (.int (2))), (.val (.int ((3 - 1) + (-1)))), (.val (.int ((0 + (((XT.ushrL (Int64.ofNat t3.1) ((3 - 1) + (-1))) &&& 1).toInt32)) + (((XT.ushrL (Int64.ofNat t1.1) ((3 - 1) + (-1))) &&& 1).toInt32)))), (.val (.int (0 + 1))), (.val (.int (0 + 1))), (.val (.long ((XT.ushrL (Int64.ofNat t1.1) ((3 - 1) + (-1))) &&& 1))), .second] [] [.inl ("com/example/reshelve/reshelve/service/sort/ZCurve", [(("com/example/reshelve/reshelve/service/sort/ZCurve", "dimensions", "I"), (.int (3))), (("com/example/reshelve/reshelve/service/sort/ZCurve", "bits", "I"), (.int (3))), (("com/example/reshelve/reshelve/service/sort/ZCurve", "words", "I"), (.int (1)))]), .inr (.long, [(.long (Int64.ofNat t1.1)), (.long (Int64.ofNat t2.1)), (.long (Int64.ofNat t3.1))]), .inr (.long, [(.long (0))])] _ _ _
    refine W.iinc 1 d3_118 rfl rfl ?_
    refine W.goto d3_121 ?_
    show W l Z n m3 41 [(.val (.ref 0)), (.val (.ref 1)), (.val (.ref 2)), (.val (.long (((((((((((0 : Int64) <<< ((1 : Int32) &&& 0x3f).toInt64) ||| ((XT.ushrL (Int64.ofNat t1.1) (3 - 1)) &&& 1)) <<< ((1 : Int32) &&& 0x3f).toInt64) ||| ((XT.ushrL (Int64.ofNat t2.1) (3 - 1)) &&& 1)) <<< ((1 : Int32) &&& 0x3f).toInt64) ||| ((XT.ushrL (Int64.ofNat t3.1) (3 - 1)) &&& 1)) <<< ((1 : Int32) &&& 0x3f).toInt64) ||| ((XT.ushrL (Int64.ofNat t3.1) ((3 - 1) + (-1))) &&& 1)) <<< ((1 : Int32) &&& 0x3f).toInt64) ||| ((XT.ushrL (Int64.ofNat t1.1) ((3 - 1) + (-1))) &&& 1)))), .second, (.val (.int (((((0 + 1) + 1) + 1) + 1) + 1))), (.val (.int (0))), (.val (.int (2))), (.val (.int ((3 - 1) + (-1)))), (.val (.int ((0 + (((XT.ushrL (Int64.ofNat t3.1) ((3 - 1) + (-1))) &&& 1).toInt32)) + (((XT.ushrL (Int64.ofNat t1.1) ((3 - 1) + (-1))) &&& 1).toInt32)))), (.val (.int (0 + 1))), (.val (.int ((0 + 1) + 1))), (.val (.long ((XT.ushrL (Int64.ofNat t1.1) ((3 - 1) + (-1))) &&& 1))), .second] [] [.inl ("com/example/reshelve/reshelve/service/sort/ZCurve", [(("com/example/reshelve/reshelve/service/sort/ZCurve", "dimensions", "I"), (.int (3))), (("com/example/reshelve/reshelve/service/sort/ZCurve", "bits", "I"), (.int (3))), (("com/example/reshelve/reshelve/service/sort/ZCurve", "words", "I"), (.int (1)))]), .inr (.long, [(.long (Int64.ofNat t1.1)), (.long (Int64.ofNat t2.1)), (.long (Int64.ofNat t3.1))]), .inr (.long, [(.long (0))])] _ _ _
    refine W.iload d3_41 rfl ?_
    refine W.aloadN d3_43 rfl rfl ?_
    refine W.getfield 0 d3_44 (hw _ (wd 10 rfl)) rfl rfl ?_
    refine W.icmp_ge d3_47 (fun h => False.elim (by revert h; decide)) (fun h47 => ?_)
    refine W.aloadN d3_50 rfl rfl ?_
    refine W.iload d3_51 rfl ?_
    refine W.laload (i := 1) d3_53 rfl ⟨by decide, by decide⟩ rfl ?_
    refine W.iload d3_54 rfl ?_
    refine W.lushr d3_56 ?_
    refine W.lconst 1 d3_57 rfl ?_
    refine W.land d3_58 ?_
    refine W.lstore d3_59 rfl ?_
    refine W.lloadN d3_61 rfl ?_
    refine W.iconst 1 d3_62 rfl ?_
    refine W.lshl d3_63 ?_
    refine W.lload d3_64 rfl ?_
    refine W.lor d3_66 ?_
    refine W.lstoreN d3_67 rfl ?_
    refine W.iinc 1 d3_68 rfl rfl ?_
    show WB _ l Z n m3 71 [(.val (.ref 0)), (.val (.ref 1)), (.val (.ref 2)), (.val (.long (((((((((((((0 : Int64) <<< ((1 : Int32) &&& 0x3f).toInt64) ||| ((XT.ushrL (Int64.ofNat t1.1) (3 - 1)) &&& 1)) <<< ((1 : Int32) &&& 0x3f).toInt64) ||| ((XT.ushrL (Int64.ofNat t2.1) (3 - 1)) &&& 1)) <<< ((1 : Int32) &&& 0x3f).toInt64) ||| ((XT.ushrL (Int64.ofNat t3.1) (3 - 1)) &&& 1)) <<< ((1 : Int32) &&& 0x3f).toInt64) ||| ((XT.ushrL (Int64.ofNat t3.1) ((3 - 1) + (-1))) &&& 1)) <<< ((1 : Int32) &&& 0x3f).toInt64) ||| ((XT.ushrL (Int64.ofNat t1.1) ((3 - 1) + (-1))) &&& 1)) <<< ((1 : Int32) &&& 0x3f).toInt64) ||| ((XT.ushrL (Int64.ofNat t2.1) ((3 - 1) + (-1))) &&& 1)))), .second, (.val (.int ((((((0 + 1) + 1) + 1) + 1) + 1) + 1))), (.val (.int (0))), (.val (.int (2))), (.val (.int ((3 - 1) + (-1)))), (.val (.int ((0 + (((XT.ushrL (Int64.ofNat t3.1) ((3 - 1) + (-1))) &&& 1).toInt32)) + (((XT.ushrL (Int64.ofNat t1.1) ((3 - 1) + (-1))) &&& 1).toInt32)))), (.val (.int (0 + 1))), (.val (.int ((0 + 1) + 1))), (.val (.long ((XT.ushrL (Int64.ofNat t2.1) ((3 - 1) + (-1))) &&& 1))), .second] [] [.inl ("com/example/reshelve/reshelve/service/sort/ZCurve", [(("com/example/reshelve/reshelve/service/sort/ZCurve", "dimensions", "I"), (.int (3))), (("com/example/reshelve/reshelve/service/sort/ZCurve", "bits", "I"), (.int (3))), (("com/example/reshelve/reshelve/service/sort/ZCurve", "words", "I"), (.int (1)))]), .inr (.long, [(.long (Int64.ofNat t1.1)), (.long (Int64.ofNat t2.1)), (.long (Int64.ofNat t3.1))]), .inr (.long, [(.long (0))])] _ _ _
    refine W.iload d3_71 rfl ?_
    refine W.bipush 64 d3_73 rfl ?_
    refine W.icmp_ne d3_75 (fun h75 => ?_) (fun h => False.elim (by revert h; decide))
    refine W.iload d3_89 rfl ?_
    refine W.lload d3_91 rfl ?_
    refine W.l2i d3_93 ?_
    refine W.iadd d3_94 ?_
    refine W.istore d3_95 rfl ?_
    refine W.iload d3_97 rfl ?_
    refine W.iconst 1 d3_99 rfl ?_
    refine W.iadd d3_100 ?_
    refine W.aloadN d3_101 rfl rfl ?_
    refine W.getfield 0 d3_102 (hw _ (wd 10 rfl)) rfl rfl ?_
    refine W.icmp_ne d3_105 (fun h105 => ?_) (fun h => False.elim (by revert h; decide))
    refine W.iload d3_112 rfl ?_
    refine W.iconst 1 d3_114 rfl ?_
    refine W.iadd d3_115 ?_
    refine W.istore d3_116 rfl ?_
    refine W.iinc 1 d3_118 rfl rfl ?_
    refine W.goto d3_121 ?_
    show W l Z n m3 41 [(.val (.ref 0)), (.val (.ref 1)), (.val (.ref 2)), (.val (.long (((((((((((((0 : Int64) <<< ((1 : Int32) &&& 0x3f).toInt64) ||| ((XT.ushrL (Int64.ofNat t1.1) (3 - 1)) &&& 1)) <<< ((1 : Int32) &&& 0x3f).toInt64) ||| ((XT.ushrL (Int64.ofNat t2.1) (3 - 1)) &&& 1)) <<< ((1 : Int32) &&& 0x3f).toInt64) ||| ((XT.ushrL (Int64.ofNat t3.1) (3 - 1)) &&& 1)) <<< ((1 : Int32) &&& 0x3f).toInt64) ||| ((XT.ushrL (Int64.ofNat t3.1) ((3 - 1) + (-1))) &&& 1)) <<< ((1 : Int32) &&& 0x3f).toInt64) ||| ((XT.ushrL (Int64.ofNat t1.1) ((3 - 1) + (-1))) &&& 1)) <<< ((1 : Int32) &&& 0x3f).toInt64) ||| ((XT.ushrL (Int64.ofNat t2.1) ((3 - 1) + (-1))) &&& 1)))), .second, (.val (.int ((((((0 + 1) + 1) + 1) + 1) + 1) + 1))), (.val (.int (0))), (.val (.int (2))), (.val (.int ((3 - 1) + (-1)))), (.val (.int (((0 + (((XT.ushrL (Int64.ofNat t3.1) ((3 - 1) + (-1))) &&& 1).toInt32)) + (((XT.ushrL (Int64.ofNat t1.1) ((3 - 1) + (-1))) &&& 1).toInt32)) + (((XT.ushrL (Int64.ofNat t2.1) ((3 - 1) + (-1))) &&& 1).toInt32)))), (.val (.int ((0 + 1) + 1))), (.val (.int (((0 + 1) + 1) + 1))), (.val (.long ((XT.ushrL (Int64.ofNat t2.1) ((3 - 1) + (-1))) &&& 1))), .second] [] [.inl ("com/example/reshelve/reshelve/service/sort/ZCurve", [(("com/example/reshelve/reshelve/service/sort/ZCurve", "dimensions", "I"), (.int (3))), (("com/example/reshelve/reshelve/service/sort/ZCurve", "bits", "I"), (.int (3))), (("com/example/reshelve/reshelve/service/sort/ZCurve", "words", "I"), (.int (1)))]), .inr (.long, [(.long (Int64.ofNat t1.1)), (.long (Int64.ofNat t2.1)), (.long (Int64.ofNat t3.1))]), .inr (.long, [(.long (0))])] _ _ _
    refine W.iload d3_41 rfl ?_
    refine W.aloadN d3_43 rfl rfl ?_
    refine W.getfield 0 d3_44 (hw _ (wd 10 rfl)) rfl rfl ?_
    refine W.icmp_ge d3_47 (fun h47 => ?_) (fun h => False.elim (by revert h; decide))
    refine W.iload d3_124 rfl ?_
    refine W.iload d3_126 rfl ?_
    refine W.iadd d3_128 ?_
    rcases own_k11 t1 t2 t3 with q1 | q1 | q1 | q1
    · rw [q1]
      refine W.istore d3_129 rfl ?_
      show WB _ l Z n m3 131 [(.val (.ref 0)), (.val (.ref 1)), (.val (.ref 2)), (.val (.long (((((((((((((0 : Int64) <<< ((1 : Int32) &&& 0x3f).toInt64) ||| ((XT.ushrL (Int64.ofNat t1.1) (3 - 1)) &&& 1)) <<< ((1 : Int32) &&& 0x3f).toInt64) ||| ((XT.ushrL (Int64.ofNat t2.1) (3 - 1)) &&& 1)) <<< ((1 : Int32) &&& 0x3f).toInt64) ||| ((XT.ushrL (Int64.ofNat t3.1) (3 - 1)) &&& 1)) <<< ((1 : Int32) &&& 0x3f).toInt64) ||| ((XT.ushrL (Int64.ofNat t3.1) ((3 - 1) + (-1))) &&& 1)) <<< ((1 : Int32) &&& 0x3f).toInt64) ||| ((XT.ushrL (Int64.ofNat t1.1) ((3 - 1) + (-1))) &&& 1)) <<< ((1 : Int32) &&& 0x3f).toInt64) ||| ((XT.ushrL (Int64.ofNat t2.1) ((3 - 1) + (-1))) &&& 1)))), .second, (.val (.int ((((((0 + 1) + 1) + 1) + 1) + 1) + 1))), (.val (.int (0))), (.val (.int (2))), (.val (.int ((3 - 1) + (-1)))), (.val (.int (((0 + (((XT.ushrL (Int64.ofNat t3.1) ((3 - 1) + (-1))) &&& 1).toInt32)) + (((XT.ushrL (Int64.ofNat t1.1) ((3 - 1) + (-1))) &&& 1).toInt32)) + (((XT.ushrL (Int64.ofNat t2.1) ((3 - 1) + (-1))) &&& 1).toInt32)))), (.val (.int ((0 + 1) + 1))), (.val (.int (((0 + 1) + 1) + 1))), (.val (.long ((XT.ushrL (Int64.ofNat t2.1) ((3 - 1) + (-1))) &&& 1))), .second] [] [.inl ("com/example/reshelve/reshelve/service/sort/ZCurve", [(("com/example/reshelve/reshelve/service/sort/ZCurve", "dimensions", "I"), (.int (3))), (("com/example/reshelve/reshelve/service/sort/ZCurve", "bits", "I"), (.int (3))), (("com/example/reshelve/reshelve/service/sort/ZCurve", "words", "I"), (.int (1)))]), .inr (.long, [(.long (Int64.ofNat t1.1)), (.long (Int64.ofNat t2.1)), (.long (Int64.ofNat t3.1))]), .inr (.long, [(.long (0))])] _ _ _
      refine W.iload d3_131 rfl ?_
      refine W.aloadN d3_133 rfl rfl ?_
      refine W.getfield 0 d3_134 (hw _ (wd 10 rfl)) rfl rfl ?_
      refine W.icmp_lt d3_137 (fun h137 => ?_) (fun h => False.elim (by revert h; decide))
      refine W.iinc (-1) d3_149 rfl rfl ?_
      refine W.goto d3_152 ?_
      refine W.iload d3_26 rfl ?_
      refine W.if_lt d3_28 (fun h => False.elim (by revert h; decide)) (fun h28 => ?_)
      refine W.iconst 0 d3_31 rfl ?_
      refine W.istore d3_32 rfl ?_
      refine W.iload d3_34 rfl ?_
      refine W.istore d3_36 rfl ?_
      refine W.iconst 0 d3_38 rfl ?_
      refine W.istore d3_39 rfl ?_
      show W l Z n m3 41 [(.val (.ref 0)), (.val (.ref 1)), (.val (.ref 2)), (.val (.long (((((((((((((0 : Int64) <<< ((1 : Int32) &&& 0x3f).toInt64) ||| ((XT.ushrL (Int64.ofNat t1.1) (3 - 1)) &&& 1)) <<< ((1 : Int32) &&& 0x3f).toInt64) ||| ((XT.ushrL (Int64.ofNat t2.1) (3 - 1)) &&& 1)) <<< ((1 : Int32) &&& 0x3f).toInt64) ||| ((XT.ushrL (Int64.ofNat t3.1) (3 - 1)) &&& 1)) <<< ((1 : Int32) &&& 0x3f).toInt64) ||| ((XT.ushrL (Int64.ofNat t3.1) ((3 - 1) + (-1))) &&& 1)) <<< ((1 : Int32) &&& 0x3f).toInt64) ||| ((XT.ushrL (Int64.ofNat t1.1) ((3 - 1) + (-1))) &&& 1)) <<< ((1 : Int32) &&& 0x3f).toInt64) ||| ((XT.ushrL (Int64.ofNat t2.1) ((3 - 1) + (-1))) &&& 1)))), .second, (.val (.int ((((((0 + 1) + 1) + 1) + 1) + 1) + 1))), (.val (.int (0))), (.val (.int (2))), (.val (.int (((3 - 1) + (-1)) + (-1)))), (.val (.int (0))), (.val (.int (2))), (.val (.int (0))), (.val (.long ((XT.ushrL (Int64.ofNat t2.1) ((3 - 1) + (-1))) &&& 1))), .second] [] [.inl ("com/example/reshelve/reshelve/service/sort/ZCurve", [(("com/example/reshelve/reshelve/service/sort/ZCurve", "dimensions", "I"), (.int (3))), (("com/example/reshelve/reshelve/service/sort/ZCurve", "bits", "I"), (.int (3))), (("com/example/reshelve/reshelve/service/sort/ZCurve", "words", "I"), (.int (1)))]), .inr (.long, [(.long (Int64.ofNat t1.1)), (.long (Int64.ofNat t2.1)), (.long (Int64.ofNat t3.1))]), .inr (.long, [(.long (0))])] _ _ _
      show WB _ l Z n m3 41 [(.val (.ref 0)), (.val (.ref 1)), (.val (.ref 2)), (.val (.long (((((((((((((0 : Int64) <<< ((1 : Int32) &&& 0x3f).toInt64) ||| ((XT.ushrL (Int64.ofNat t1.1) (3 - 1)) &&& 1)) <<< ((1 : Int32) &&& 0x3f).toInt64) ||| ((XT.ushrL (Int64.ofNat t2.1) (3 - 1)) &&& 1)) <<< ((1 : Int32) &&& 0x3f).toInt64) ||| ((XT.ushrL (Int64.ofNat t3.1) (3 - 1)) &&& 1)) <<< ((1 : Int32) &&& 0x3f).toInt64) ||| ((XT.ushrL (Int64.ofNat t3.1) ((3 - 1) + (-1))) &&& 1)) <<< ((1 : Int32) &&& 0x3f).toInt64) ||| ((XT.ushrL (Int64.ofNat t1.1) ((3 - 1) + (-1))) &&& 1)) <<< ((1 : Int32) &&& 0x3f).toInt64) ||| ((XT.ushrL (Int64.ofNat t2.1) ((3 - 1) + (-1))) &&& 1)))), .second, (.val (.int ((((((0 + 1) + 1) + 1) + 1) + 1) + 1))), (.val (.int (0))), (.val (.int (2))), (.val (.int (((3 - 1) + (-1)) + (-1)))), (.val (.int (0))), (.val (.int (2))), (.val (.int (0))), (.val (.long ((XT.ushrL (Int64.ofNat t2.1) ((3 - 1) + (-1))) &&& 1))), .second] [] [.inl ("com/example/reshelve/reshelve/service/sort/ZCurve", [(("com/example/reshelve/reshelve/service/sort/ZCurve", "dimensions", "I"), (.int (3))), (("com/example/reshelve/reshelve/service/sort/ZCurve", "bits", "I"), (.int (3))), (("com/example/reshelve/reshelve/service/sort/ZCurve", "words", "I"), (.int (1)))]), .inr (.long, [(.long (Int64.ofNat t1.1)), (.long (Int64.ofNat t2.1)), (.long (Int64.ofNat t3.1))]), .inr (.long, [(.long (0))])] _ _ _
      refine W.iload d3_41 rfl ?_
      refine W.aloadN d3_43 rfl rfl ?_
      refine W.getfield 0 d3_44 (hw _ (wd 10 rfl)) rfl rfl ?_
      refine W.icmp_ge d3_47 (fun h => False.elim (by revert h; decide)) (fun h47 => ?_)
      refine W.aloadN d3_50 rfl rfl ?_
      refine W.iload d3_51 rfl ?_
      refine W.laload (i := 2) d3_53 rfl ⟨by decide, by decide⟩ rfl ?_
      refine W.iload d3_54 rfl ?_
      refine W.lushr d3_56 ?_
      refine W.lconst 1 d3_57 rfl ?_
      refine W.land d3_58 ?_
      refine W.lstore d3_59 rfl ?_
      refine W.lloadN d3_61 rfl ?_
      refine W.iconst 1 d3_62 rfl ?_
      refine W.lshl d3_63 ?_
      refine W.lload d3_64 rfl ?_
      refine W.lor d3_66 ?_
      refine W.lstoreN d3_67 rfl ?_
      refine W.iinc 1 d3_68 rfl rfl ?_
      refine W.iload d3_71 rfl ?_
      refine W.bipush 64 d3_73 rfl ?_
      refine W.icmp_ne d3_75 (fun h75 => ?_) (fun h => False.elim (by revert h; decide))
      refine W.iload d3_89 rfl ?_
      refine W.lload d3_91 rfl ?_
      refine W.l2i d3_93 ?_
      refine W.iadd d3_94 ?_
      refine W.istore d3_95 rfl ?_
      show WB _ l Z n m3 97 [(.val (.ref 0)), (.val (.ref 1)), (.val (.ref 2)), (.val (.long (((((((((((((((0 : Int64) <<< ((1 : Int32) &&& 0x3f).toInt64) ||| ((XT.ushrL (Int64.ofNat t1.1) (3 - 1)) &&& 1)) <<< ((1 : Int32) &&& 0x3f).toInt64) ||| ((XT.ushrL (Int64.ofNat t2.1) (3 - 1)) &&& 1)) <<< ((1 : Int32) &&& 0x3f).toInt64) ||| ((XT.ushrL (Int64.ofNat t3.1) (3 - 1)) &&& 1)) <<< ((1 : Int32) &&& 0x3f).toInt64) ||| ((XT.ushrL (Int64.ofNat t3.1) ((3 - 1) + (-1))) &&& 1)) <<< ((1 : Int32) &&& 0x3f).toInt64) ||| ((XT.ushrL (Int64.ofNat t1.1) ((3 - 1) + (-1))) &&& 1)) <<< ((1 : Int32) &&& 0x3f).toInt64) ||| ((XT.ushrL (Int64.ofNat t2.1) ((3 - 1) + (-1))) &&& 1)) <<< ((1 : Int32) &&& 0x3f).toInt64) ||| ((XT.ushrL (Int64.ofNat t3.1) (((3 - 1) + (-1)) + (-1))) &&& 1)))), .second, (.val (.int (((((((0 + 1) + 1) + 1) + 1) + 1) + 1) + 1))), (.val (.int (0))), (.val (.int (2))), (.val (.int (((3 - 1) + (-1)) + (-1)))), (.val (.int (0 + (((XT.ushrL (Int64.ofNat t3.1) (((3 - 1) + (-1)) + (-1))) &&& 1).toInt32)))), (.val (.int (2))), (.val (.int (0))), (.val (.long ((XT.ushrL (Int64.ofNat t3.1) (((3 - 1) + (-1)) + (-1))) &&& 1))), .second] [] [.inl ("com/example/reshelve/reshelve/service/sort/ZCurve", [(("com/example/reshelve/reshelve/service/sort/ZCurve", "dimensions", "I"), (.int (3))), (("com/example/reshelve/reshelve/service/sort/ZCurve", "bits", "I"), (.int (3))), (("com/example/reshelve/reshelve/service/sort/ZCurve", "words", "I"), (.int (1)))]), .inr (.long, [(.long (Int64.ofNat t1.1)), (.long (Int64.ofNat t2.1)), (.long (Int64.ofNat t3.1))]), .inr (.long, [(.long (0))])] _ _ _
      refine W.iload d3_97 rfl ?_
      refine W.iconst 1 d3_99 rfl ?_
      refine W.iadd d3_100 ?_
      refine W.aloadN d3_101 rfl rfl ?_
      refine W.getfield 0 d3_102 (hw _ (wd 10 rfl)) rfl rfl ?_
      refine W.icmp_ne d3_105 (fun h => False.elim (by revert h; decide)) (fun h105 => ?_)
      refine W.iconst 0 d3_108 rfl ?_
      refine W.goto d3_109 ?_
      refine W.istore d3_116 rfl ?_
      refine W.iinc 1 d3_118 rfl rfl ?_
      refine W.goto d3_121 ?_
      show W l Z n m3 41 [(.val (.ref 0)), (.val (.ref 1)), (.val (.ref 2)), (.val (.long (((((((((((((((0 : Int64) <<< ((1 : Int32) &&& 0x3f).toInt64) ||| ((XT.ushrL (Int64.ofNat t1.1) (3 - 1)) &&& 1)) <<< ((1 : Int32) &&& 0x3f).toInt64) ||| ((XT.ushrL (Int64.ofNat t2.1) (3 - 1)) &&& 1)) <<< ((1 : Int32) &&& 0x3f).toInt64) ||| ((XT.ushrL (Int64.ofNat t3.1) (3 - 1)) &&& 1)) <<< ((1 : Int32) &&& 0x3f).toInt64) ||| ((XT.ushrL (Int64.ofNat t3.1) ((3 - 1) + (-1))) &&& 1)) <<< ((1 : Int32) &&& 0x3f).toInt64) ||| ((XT.ushrL (Int64.ofNat t1.1) ((3 - 1) + (-1))) &&& 1)) <<< ((1 : Int32) &&& 0x3f).toInt64) ||| ((XT.ushrL (Int64.ofNat t2.1) ((3 - 1) + (-1))) &&& 1)) <<< ((1 : Int32) &&& 0x3f).toInt64) ||| ((XT.ushrL (Int64.ofNat t3.1) (((3 - 1) + (-1)) + (-1))) &&& 1)))), .second, (.val (.int (((((((0 + 1) + 1) + 1) + 1) + 1) + 1) + 1))), (.val (.int (0))), (.val (.int (2))), (.val (.int (((3 - 1) + (-1)) + (-1)))), (.val (.int (0 + (((XT.ushrL (Int64.ofNat t3.1) (((3 - 1) + (-1)) + (-1))) &&& 1).toInt32)))), (.val (.int (0))), (.val (.int (0 + 1))), (.val (.long ((XT.ushrL (Int64.ofNat t3.1) (((3 - 1) + (-1)) + (-1))) &&& 1))), .second] [] [.inl ("com/example/reshelve/reshelve/service/sort/ZCurve", [(("com/example/reshelve/reshelve/service/sort/ZCurve", "dimensions", "I"), (.int (3))), (("com/example/reshelve/reshelve/service/sort/ZCurve", "bits", "I"), (.int (3))), (("com/example/reshelve/reshelve/service/sort/ZCurve", "words", "I"), (.int (1)))]), .inr (.long, [(.long (Int64.ofNat t1.1)), (.long (Int64.ofNat t2.1)), (.long (Int64.ofNat t3.1))]), .inr (.long, [(.long (0))])] _ _ _
      refine W.iload d3_41 rfl ?_
      refine W.aloadN d3_43 rfl rfl ?_
      refine W.getfield 0 d3_44 (hw _ (wd 10 rfl)) rfl rfl ?_
      refine W.icmp_ge d3_47 (fun h => False.elim (by revert h; decide)) (fun h47 => ?_)
      refine W.aloadN d3_50 rfl rfl ?_
      refine W.iload d3_51 rfl ?_
      refine W.laload (i := 0) d3_53 rfl ⟨by decide, by decide⟩ rfl ?_
      refine W.iload d3_54 rfl ?_
      refine W.lushr d3_56 ?_
      refine W.lconst 1 d3_57 rfl ?_
      refine W.land d3_58 ?_
      refine W.lstore d3_59 rfl ?_
      refine W.lloadN d3_61 rfl ?_
      refine W.iconst 1 d3_62 rfl ?_
      refine W.lshl d3_63 ?_
      refine W.lload d3_64 rfl ?_
      refine W.lor d3_66 ?_
      refine W.lstoreN d3_67 rfl ?_
      show WB _ l Z n m3 68 [(.val (.ref 0)), (.val (.ref 1)), (.val (.ref 2)), (.val (.long (((((((((((((((((0 : Int64) <<< ((1 : Int32) &&& 0x3f).toInt64) ||| ((XT.ushrL (Int64.ofNat t1.1) (3 - 1)) &&& 1)) <<< ((1 : Int32) &&& 0x3f).toInt64) ||| ((XT.ushrL (Int64.ofNat t2.1) (3 - 1)) &&& 1)) <<< ((1 : Int32) &&& 0x3f).toInt64) ||| ((XT.ushrL (Int64.ofNat t3.1) (3 - 1)) &&& 1)) <<< ((1 : Int32) &&& 0x3f).toInt64) ||| ((XT.ushrL (Int64.ofNat t3.1) ((3 - 1) + (-1))) &&& 1)) <<< ((1 : Int32) &&& 0x3f).toInt64) ||| ((XT.ushrL (Int64.ofNat t1.1) ((3 - 1) + (-1))) &&& 1)) <<< ((1 : Int32) &&& 0x3f).toInt64) ||| ((XT.ushrL (Int64.ofNat t2.1) ((3 - 1) + (-1))) &&& 1)) <<< ((1 : Int32) &&& 0x3f).toInt64) ||| ((XT.ushrL (Int64.ofNat t3.1) (((3 - 1) + (-1)) + (-1))) &&& 1)) <<< ((1 : Int32) &&& 0x3f).toInt64) ||| ((XT.ushrL (Int64.ofNat t1.1) (((3 - 1) + (-1)) + (-1))) &&& 1)))), .second, (.val (.int (((((((0 + 1) + 1) + 1) + 1) + 1) + 1) + 1))), (.val (.int (0))), (.val (.int (2))), (.val (.int (((3 - 1) + (-1)) + (-1)))), (.val (.int (0 + (((XT.ushrL (Int64.ofNat t3.1) (((3 - 1) + (-1)) + (-1))) &&& 1).toInt32)))), (.val (.int (0))), (.val (.int (0 + 1))), (.val (.long ((XT.ushrL (Int64.ofNat t1.1) (((3 - 1) + (-1)) + (-1))) &&& 1))), .second] [] [.inl ("com/example/reshelve/reshelve/service/sort/ZCurve", [(("com/example/reshelve/reshelve/service/sort/ZCurve", "dimensions", "I"), (.int (3))), (("com/example/reshelve/reshelve/service/sort/ZCurve", "bits", "I"), (.int (3))), (("com/example/reshelve/reshelve/service/sort/ZCurve", "words", "I"), (.int (1)))]), .inr (.long, [(.long (Int64.ofNat t1.1)), (.long (Int64.ofNat t2.1)), (.long (Int64.ofNat t3.1))]), .inr (.long, [(.long (0))])] _ _ _
      refine W.iinc 1 d3_68 rfl rfl ?_
      refine W.iload d3_71 rfl ?_
      refine W.bipush 64 d3_73 rfl ?_
      refine W.icmp_ne d3_75 (fun h75 => ?_) (fun h => False.elim (by revert h; decide))
      refine W.iload d3_89 rfl ?_
      refine W.lload d3_91 rfl ?_
      refine W.l2i d3_93 ?_
      refine W.iadd d3_94 ?_
      refine W.istore d3_95 rfl ?_
      refine W.iload d3_97 rfl ?_
      refine W.iconst 1 d3_99 rfl ?_
      refine W.iadd d3_100 ?_
      refine W.aloadN d3_101 rfl rfl ?_
      refine W.getfield 0 d3_102 (hw _ (wd 10 rfl)) rfl rfl ?_
      refine W.icmp_ne d3_105 (fun h105 => ?_) (fun h => False.elim (by revert h; decide))
      refine W.iload d3_112 rfl ?_
      refine W.iconst 1 d3_114 rfl ?_
      refine W.iadd d3_115 ?_
      refine W.istore d3_116 rfl ?_
      refine W.iinc 1 d3_118 rfl rfl ?_
      show WB _ l Z n m3 121 [(.val (.ref 0)), (.val (.ref 1)), (.val (.ref 2)), (.val (.long (((((((((((((((((0 : Int64) <<< ((1 : Int32) &&& 0x3f).toInt64) ||| ((XT.ushrL (Int64.ofNat t1.1) (3 - 1)) &&& 1)) <<< ((1 : Int32) &&& 0x3f).toInt64) ||| ((XT.ushrL (Int64.ofNat t2.1) (3 - 1)) &&& 1)) <<< ((1 : Int32) &&& 0x3f).toInt64) ||| ((XT.ushrL (Int64.ofNat t3.1) (3 - 1)) &&& 1)) <<< ((1 : Int32) &&& 0x3f).toInt64) ||| ((XT.ushrL (Int64.ofNat t3.1) ((3 - 1) + (-1))) &&& 1)) <<< ((1 : Int32) &&& 0x3f).toInt64) ||| ((XT.ushrL (Int64.ofNat t1.1) ((3 - 1) + (-1))) &&& 1)) <<< ((1 : Int32) &&& 0x3f).toInt64) ||| ((XT.ushrL (Int64.ofNat t2.1) ((3 - 1) + (-1))) &&& 1)) <<< ((1 : Int32) &&& 0x3f).toInt64) ||| ((XT.ushrL (Int64.ofNat t3.1) (((3 - 1) + (-1)) + (-1))) &&& 1)) <<< ((1 : Int32) &&& 0x3f).toInt64) ||| ((XT.ushrL (Int64.ofNat t1.1) (((3 - 1) + (-1)) + (-1))) &&& 1)))), .second, (.val (.int ((((((((0 + 1) + 1) + 1) + 1) + 1) + 1) + 1) + 1))), (.val (.int (0))), (.val (.int (2))), (.val (.int (((3 - 1) + (-1)) + (-1)))), (.val (.int ((0 + (((XT.ushrL (Int64.ofNat t3.1) (((3 - 1) + (-1)) + (-1))) &&& 1).toInt32)) + (((XT.ushrL (Int64.ofNat t1.1) (((3 - 1) + (-1)) + (-1))) &&& 1).toInt32)))), (.val (.int (0 + 1))), (.val (.int ((0 + 1) + 1))), (.val (.long ((XT.ushrL (Int64.ofNat t1.1) (((3 - 1) + (-1)) + (-1))) &&& 1))), .second] [] [.inl ("com/example/reshelve/reshelve/service/sort/ZCurve", [(("com/example/reshelve/reshelve/service/sort/ZCurve", "dimensions", "I"), (.int (3))), (("com/example/reshelve/reshelve/service/sort/ZCurve", "bits", "I"), (.int (3))), (("com/example/reshelve/reshelve/service/sort/ZCurve", "words", "I"), (.int (1)))]), .inr (.long, [(.long (Int64.ofNat t1.1)), (.long (Int64.ofNat t2.1)), (.long (Int64.ofNat t3.1))]), .inr (.long, [(.long (0))])] _ _ _
      refine W.goto d3_121 ?_
      show W l Z n m3 41 [(.val (.ref 0)), (.val (.ref 1)), (.val (.ref 2)), (.val (.long (((((((((((((((((0 : Int64) <<< ((1 : Int32) &&& 0x3f).toInt64) ||| ((XT.ushrL (Int64.ofNat t1.1) (3 - 1)) &&& 1)) <<< ((1 : Int32) &&& 0x3f).toInt64) ||| ((XT.ushrL (Int64.ofNat t2.1) (3 - 1)) &&& 1)) <<< ((1 : Int32) &&& 0x3f).toInt64) ||| ((XT.ushrL (Int64.ofNat t3.1) (3 - 1)) &&& 1)) <<< ((1 : Int32) &&& 0x3f).toInt64) ||| ((XT.ushrL (Int64.ofNat t3.1) ((3 - 1) + (-1))) &&& 1)) <<< ((1 : Int32) &&& 0x3f).toInt64) ||| ((XT.ushrL (Int64.ofNat t1.1) ((3 - 1) + (-1))) &&& 1)) <<< ((1 : Int32) &&& 0x3f).toInt64) ||| ((XT.ushrL (Int64.ofNat t2.1) ((3 - 1) + (-1))) &&& 1)) <<< ((1 : Int32) &&& 0x3f).toInt64) ||| ((XT.ushrL (Int64.ofNat t3.1) (((3 - 1) + (-1)) + (-1))) &&& 1)) <<< ((1 : Int32) &&& 0x3f).toInt64) ||| ((XT.ushrL (Int64.ofNat t1.1) (((3 - 1) + (-1)) + (-1))) &&& 1)))), .second, (.val (.int ((((((((0 + 1) + 1) + 1) + 1) + 1) + 1) + 1) + 1))), (.val (.int (0))), (.val (.int (2))), (.val (.int (((3 - 1) + (-1)) + (-1)))), (.val (.int ((0 + (((XT.ushrL (Int64.ofNat t3.1) (((3 - 1) + (-1)) + (-1))) &&& 1).toInt32)) + (((XT.ushrL (Int64.ofNat t1.1) (((3 - 1) + (-1)) + (-1))) &&& 1).toInt32)))), (.val (.int (0 + 1))), (.val (.int ((0 + 1) + 1))), (.val (.long ((XT.ushrL (Int64.ofNat t1.1) (((3 - 1) + (-1)) + (-1))) &&& 1))), .second] [] [.inl ("com/example/reshelve/reshelve/service/sort/ZCurve", [(("com/example/reshelve/reshelve/service/sort/ZCurve", "dimensions", "I"), (.int (3))), (("com/example/reshelve/reshelve/service/sort/ZCurve", "bits", "I"), (.int (3))), (("com/example/reshelve/reshelve/service/sort/ZCurve", "words", "I"), (.int (1)))]), .inr (.long, [(.long (Int64.ofNat t1.1)), (.long (Int64.ofNat t2.1)), (.long (Int64.ofNat t3.1))]), .inr (.long, [(.long (0))])] _ _ _
      refine W.iload d3_41 rfl ?_
      refine W.aloadN d3_43 rfl rfl ?_
      refine W.getfield 0 d3_44 (hw _ (wd 10 rfl)) rfl rfl ?_
      refine W.icmp_ge d3_47 (fun h => False.elim (by revert h; decide)) (fun h47 => ?_)
      refine W.aloadN d3_50 rfl rfl ?_
      refine W.iload d3_51 rfl ?_
      refine W.laload (i := 1) d3_53 rfl ⟨by decide, by decide⟩ rfl ?_
      refine W.iload d3_54 rfl ?_
      refine W.lushr d3_56 ?_
      refine W.lconst 1 d3_57 rfl ?_
      refine W.land d3_58 ?_
      refine W.lstore d3_59 rfl ?_
      refine W.lloadN d3_61 rfl ?_
      refine W.iconst 1 d3_62 rfl ?_
      refine W.lshl d3_63 ?_
      refine W.lload d3_64 rfl ?_
      refine W.lor d3_66 ?_
      refine W.lstoreN d3_67 rfl ?_
      refine W.iinc 1 d3_68 rfl rfl ?_
      refine W.iload d3_71 rfl ?_
      refine W.bipush 64 d3_73 rfl ?_
      refine W.icmp_ne d3_75 (fun h75 => ?_) (fun h => False.elim (by revert h; decide))
      refine W.iload d3_89 rfl ?_
      refine W.lload d3_91 rfl ?_
      refine W.l2i d3_93 ?_
      refine W.iadd d3_94 ?_
      refine W.istore d3_95 rfl ?_
      show WB _ l Z n m3 97 [(.val (.ref 0)), (.val (.ref 1)), (.val (.ref 2)), (.val (.long (((((((((((((((((((0 : Int64) <<< ((1 : Int32) &&& 0x3f).toInt64) ||| ((XT.ushrL (Int64.ofNat t1.1) (3 - 1)) &&& 1)) <<< ((1 : Int32) &&& 0x3f).toInt64) ||| ((XT.ushrL (Int64.ofNat t2.1) (3 - 1)) &&& 1)) <<< ((1 : Int32) &&& 0x3f).toInt64) ||| ((XT.ushrL (Int64.ofNat t3.1) (3 - 1)) &&& 1)) <<< ((1 : Int32) &&& 0x3f).toInt64) ||| ((XT.ushrL (Int64.ofNat t3.1) ((3 - 1) + (-1))) &&& 1)) <<< ((1 : Int32) &&& 0x3f).toInt64) ||| ((XT.ushrL (Int64.ofNat t1.1) ((3 - 1) + (-1))) &&& 1)) <<< ((1 : Int32) &&& 0x3f).toInt64) ||| ((XT.ushrL (Int64.ofNat t2.1) ((3 - 1) + (-1))) &&& 1)) <<< ((1 : Int32) &&& 0x3f).toInt64) ||| ((XT.ushrL (Int64.ofNat t3.1) (((3 - 1) + (-1)) + (-1))) &&& 1)) <<< ((1 : Int32) &&& 0x3f).toInt64) ||| ((XT.ushrL (Int64.ofNat t1.1) (((3 - 1) + (-1)) + (-1))) &&& 1)) <<< ((1 : Int32) &&& 0x3f).toInt64) ||| ((XT.ushrL (Int64.ofNat t2.1) (((3 - 1) + (-1)) + (-1))) &&& 1)))), .second, (.val (.int (((((((((0 + 1) + 1) + 1) + 1) + 1) + 1) + 1) + 1) + 1))), (.val (.int (0))), (.val (.int (2))), (.val (.int (((3 - 1) + (-1)) + (-1)))), (.val (.int (((0 + (((XT.ushrL (Int64.ofNat t3.1) (((3 - 1) + (-1)) + (-1))) &&& 1).toInt32)) + (((XT.ushrL (Int64.ofNat t1.1) (((3 - 1) + (-1)) + (-1))) &&& 1).toInt32)) + (((XT.ushrL (Int64.ofNat t2.1) (((3 - 1) + (-1)) + (-1))) &&& 1).toInt32)))), (.val (.int (0 + 1))), (.val (.int ((0 + 1) + 1))), (.val (.long ((XT.ushrL (Int64.ofNat t2.1) (((3 - 1) + (-1)) + (-1))) &&& 1))), .second] [] [.inl ("com/example/reshelve/reshelve/service/sort/ZCurve", [(("com/example/reshelve/reshelve/service/sort/ZCurve", "dimensions", "I"), (.int (3))), (("com/example/reshelve/reshelve/service/sort/ZCurve", "bits", "I"), (.int (3))), (("com/example/reshelve/reshelve/service/sort/ZCurve", "words", "I"), (.int (1)))]), .inr (.long, [(.long (Int64.ofNat t1.1)), (.long (Int64.ofNat t2.1)), (.long (Int64.ofNat t3.1))]), .inr (.long, [(.long (0))])] _ _ _
      refine W.iload d3_97 rfl ?_
      refine W.iconst 1 d3_99 rfl ?_
      refine W.iadd d3_100 ?_
      refine W.aloadN d3_101 rfl rfl ?_
      refine W.getfield 0 d3_102 (hw _ (wd 10 rfl)) rfl rfl ?_
      refine W.icmp_ne d3_105 (fun h105 => ?_) (fun h => False.elim (by revert h; decide))
      refine W.iload d3_112 rfl ?_
      refine W.iconst 1 d3_114 rfl ?_
      refine W.iadd d3_115 ?_
      refine W.istore d3_116 rfl ?_
      refine W.iinc 1 d3_118 rfl rfl ?_
      refine W.goto d3_121 ?_
      show W l Z n m3 41 [(.val (.ref 0)), (.val (.ref 1)), (.val (.ref 2)), (.val (.long (((((((((((((((((((0 : Int64) <<< ((1 : Int32) &&& 0x3f).toInt64) ||| ((XT.ushrL (Int64.ofNat t1.1) (3 - 1)) &&& 1)) <<< ((1 : Int32) &&& 0x3f).toInt64) ||| ((XT.ushrL (Int64.ofNat t2.1) (3 - 1)) &&& 1)) <<< ((1 : Int32) &&& 0x3f).toInt64) ||| ((XT.ushrL (Int64.ofNat t3.1) (3 - 1)) &&& 1)) <<< ((1 : Int32) &&& 0x3f).toInt64) ||| ((XT.ushrL (Int64.ofNat t3.1) ((3 - 1) + (-1))) &&& 1)) <<< ((1 : Int32) &&& 0x3f).toInt64) ||| ((XT.ushrL (Int64.ofNat t1.1) ((3 - 1) + (-1))) &&& 1)) <<< ((1 : Int32) &&& 0x3f).toInt64) ||| ((XT.ushrL (Int64.ofNat t2.1) ((3 - 1) + (-1))) &&& 1)) <<< ((1 : Int32) &&& 0x3f).toInt64) ||| ((XT.ushrL (Int64.ofNat t3.1) (((3 - 1) + (-1)) + (-1))) &&& 1)) <<< ((1 : Int32) &&& 0x3f).toInt64) ||| ((XT.ushrL (Int64.ofNat t1.1) (((3 - 1) + (-1)) + (-1))) &&& 1)) <<< ((1 : Int32) &&& 0x3f).toInt64) ||| ((XT.ushrL (Int64.ofNat t2.1) (((3 - 1) + (-1)) + (-1))) &&& 1)))), .second, (.val (.int (((((((((0 + 1) + 1) + 1) + 1) + 1) + 1) + 1) + 1) + 1))), (.val (.int (0))), (.val (.int (2))), (.val (.int (((3 - 1) + (-1)) + (-1)))), (.val (.int (((0 + (((XT.ushrL (Int64.ofNat t3.1) (((3 - 1) + (-1)) + (-1))) &&& 1).toInt32)) + (((XT.ushrL (Int64.ofNat t1.1) (((3 - 1) + (-1)) + (-1))) &&& 1).toInt32)) + (((XT.ushrL (Int64.ofNat t2.1) (((3 - 1) + (-1)) + (-1))) &&& 1).toInt32)))), (.val (.int ((0 + 1) + 1))), (.val (.int (((0 + 1) + 1) + 1))), (.val (.long ((XT.ushrL (Int64.ofNat t2.1) (((3 - 1) + (-1)) + (-1))) &&& 1))), .second] [] [.inl ("com/example/reshelve/reshelve/service/sort/ZCurve", [(("com/example/reshelve/reshelve/service/sort/ZCurve", "dimensions", "I"), (.int (3))), (("com/example/reshelve/reshelve/service/sort/ZCurve", "bits", "I"), (.int (3))), (("com/example/reshelve/reshelve/service/sort/ZCurve", "words", "I"), (.int (1)))]), .inr (.long, [(.long (Int64.ofNat t1.1)), (.long (Int64.ofNat t2.1)), (.long (Int64.ofNat t3.1))]), .inr (.long, [(.long (0))])] _ _ _
      refine W.iload d3_41 rfl ?_
      refine W.aloadN d3_43 rfl rfl ?_
      refine W.getfield 0 d3_44 (hw _ (wd 10 rfl)) rfl rfl ?_
      refine W.icmp_ge d3_47 (fun h47 => ?_) (fun h => False.elim (by revert h; decide))
      refine W.iload d3_124 rfl ?_
      refine W.iload d3_126 rfl ?_
      refine W.iadd d3_128 ?_
      refine W.istore d3_129 rfl ?_
      refine W.iload d3_131 rfl ?_
      refine W.aloadN d3_133 rfl rfl ?_
      refine W.getfield 0 d3_134 (hw _ (wd 10 rfl)) rfl rfl ?_
      refine W.icmp_lt d3_137 (fun h137 => ?_) (fun h137 => ?_)
      · refine W.iinc (-1) d3_149 rfl rfl ?_
        show WB _ l Z n m3 152 [(.val (.ref 0)), (.val (.ref 1)), (.val (.ref 2)), (.val (.long (((((((((((((((((((0 : Int64) <<< ((1 : Int32) &&& 0x3f).toInt64) ||| ((XT.ushrL (Int64.ofNat t1.1) (3 - 1)) &&& 1)) <<< ((1 : Int32) &&& 0x3f).toInt64) ||| ((XT.ushrL (Int64.ofNat t2.1) (3 - 1)) &&& 1)) <<< ((1 : Int32) &&& 0x3f).toInt64) ||| ((XT.ushrL (Int64.ofNat t3.1) (3 - 1)) &&& 1)) <<< ((1 : Int32) &&& 0x3f).toInt64) ||| ((XT.ushrL (Int64.ofNat t3.1) ((3 - 1) + (-1))) &&& 1)) <<< ((1 : Int32) &&& 0x3f).toInt64) ||| ((XT.ushrL (Int64.ofNat t1.1) ((3 - 1) + (-1))) &&& 1)) <<< ((1 : Int32) &&& 0x3f).toInt64) ||| ((XT.ushrL (Int64.ofNat t2.1) ((3 - 1) + (-1))) &&& 1)) <<< ((1 : Int32) &&& 0x3f).toInt64) ||| ((XT.ushrL (Int64.ofNat t3.1) (((3 - 1) + (-1)) + (-1))) &&& 1)) <<< ((1 : Int32) &&& 0x3f).toInt64) ||| ((XT.ushrL (Int64.ofNat t1.1) (((3 - 1) + (-1)) + (-1))) &&& 1)) <<< ((1 : Int32) &&& 0x3f).toInt64) ||| ((XT.ushrL (Int64.ofNat t2.1) (((3 - 1) + (-1)) + (-1))) &&& 1)))), .second, (.val (.int (((((((((0 + 1) + 1) + 1) + 1) + 1) + 1) + 1) + 1) + 1))), (.val (.int (0))), (.val (.int (2 + (((0 + (((XT.ushrL (Int64.ofNat t3.1) (((3 - 1) + (-1)) + (-1))) &&& 1).toInt32)) + (((XT.ushrL (Int64.ofNat t1.1) (((3 - 1) + (-1)) + (-1))) &&& 1).toInt32)) + (((XT.ushrL (Int64.ofNat t2.1) (((3 - 1) + (-1)) + (-1))) &&& 1).toInt32))))), (.val (.int ((((3 - 1) + (-1)) + (-1)) + (-1)))), (.val (.int (((0 + (((XT.ushrL (Int64.ofNat t3.1) (((3 - 1) + (-1)) + (-1))) &&& 1).toInt32)) + (((XT.ushrL (Int64.ofNat t1.1) (((3 - 1) + (-1)) + (-1))) &&& 1).toInt32)) + (((XT.ushrL (Int64.ofNat t2.1) (((3 - 1) + (-1)) + (-1))) &&& 1).toInt32)))), (.val (.int ((0 + 1) + 1))), (.val (.int (((0 + 1) + 1) + 1))), (.val (.long ((XT.ushrL (Int64.ofNat t2.1) (((3 - 1) + (-1)) + (-1))) &&& 1))), .second] [] [.inl ("com/example/reshelve/reshelve/service/sort/ZCurve", [(("com/example/reshelve/reshelve/service/sort/ZCurve", "dimensions", "I"), (.int (3))), (("com/example/reshelve/reshelve/service/sort/ZCurve", "bits", "I"), (.int (3))), (("com/example/reshelve/reshelve/service/sort/ZCurve", "words", "I"), (.int (1)))]), .inr (.long, [(.long (Int64.ofNat t1.1)), (.long (Int64.ofNat t2.1)), (.long (Int64.ofNat t3.1))]), .inr (.long, [(.long (0))])] _ _ _
        refine W.goto d3_152 ?_
        refine W.iload d3_26 rfl ?_
        refine W.if_lt d3_28 (fun h28 => ?_) (fun h => False.elim (by revert h; decide))
        refine W.iload d3_155 rfl ?_
        refine W.if_le d3_157 (fun h => False.elim (by revert h; decide)) (fun h157 => ?_)
        refine W.aloadN d3_160 rfl rfl ?_
        refine W.iload d3_161 rfl ?_
        refine W.lloadN d3_163 rfl ?_
        refine W.bipush 64 d3_164 rfl ?_
        refine W.iload d3_166 rfl ?_
        refine W.isub d3_168 ?_
        refine W.lshl d3_169 ?_
        refine W.lastore (i := 0) d3_170 rfl ⟨by decide, by decide⟩ (by simp) ?_
        refine W.aloadN d3_171 rfl rfl ?_
        exact W.areturn d3_172 rfl rfl rfl (by decide) (by decide) (⟨rfl, by rw [own_k12 t1 t2 t3 q0 q1] <;> rfl⟩)
      · refine W.iload d3_140 rfl ?_
        refine W.aloadN d3_142 rfl rfl ?_
        refine W.getfield 0 d3_143 (hw _ (wd 10 rfl)) rfl rfl ?_
        refine W.isub d3_146 ?_
        refine W.istore d3_147 rfl ?_
        show WB _ l Z n m3 149 [(.val (.ref 0)), (.val (.ref 1)), (.val (.ref 2)), (.val (.long (((((((((((((((((((0 : Int64) <<< ((1 : Int32) &&& 0x3f).toInt64) ||| ((XT.ushrL (Int64.ofNat t1.1) (3 - 1)) &&& 1)) <<< ((1 : Int32) &&& 0x3f).toInt64) ||| ((XT.ushrL (Int64.ofNat t2.1) (3 - 1)) &&& 1)) <<< ((1 : Int32) &&& 0x3f).toInt64) ||| ((XT.ushrL (Int64.ofNat t3.1) (3 - 1)) &&& 1)) <<< ((1 : Int32) &&& 0x3f).toInt64) ||| ((XT.ushrL (Int64.ofNat t3.1) ((3 - 1) + (-1))) &&& 1)) <<< ((1 : Int32) &&& 0x3f).toInt64) ||| ((XT.ushrL (Int64.ofNat t1.1) ((3 - 1) + (-1))) &&& 1)) <<< ((1 : Int32) &&& 0x3f).toInt64) ||| ((XT.ushrL (Int64.ofNat t2.1) ((3 - 1) + (-1))) &&& 1)) <<< ((1 : Int32) &&& 0x3f).toInt64) ||| ((XT.ushrL (Int64.ofNat t3.1) (((3 - 1) + (-1)) + (-1))) &&& 1)) <<< ((1 : Int32) &&& 0x3f).toInt64) ||| ((XT.ushrL (Int64.ofNat t1.1) (((3 - 1) + (-1)) + (-1))) &&& 1)) <<< ((1 : Int32) &&& 0x3f).toInt64) ||| ((XT.ushrL (Int64.ofNat t2.1) (((3 - 1) + (-1)) + (-1))) &&& 1)))), .second, (.val (.int (((((((((0 + 1) + 1) + 1) + 1) + 1) + 1) + 1) + 1) + 1))), (.val (.int (0))), (.val (.int ((2 + (((0 + (((XT.ushrL (Int64.ofNat t3.1) (((3 - 1) + (-1)) + (-1))) &&& 1).toInt32)) + (((XT.ushrL (Int64.ofNat t1.1) (((3 - 1) + (-1)) + (-1))) &&& 1).toInt32)) + (((XT.ushrL (Int64.ofNat t2.1) (((3 - 1) + (-1)) + (-1))) &&& 1).toInt32))) - 3))), (.val (.int (((3 - 1) + (-1)) + (-1)))), (.val (.int (((0 + (((XT.ushrL (Int64.ofNat t3.1) (((3 - 1) + (-1)) + (-1))) &&& 1).toInt32)) + (((XT.ushrL (Int64.ofNat t1.1) (((3 - 1) + (-1)) + (-1))) &&& 1).toInt32)) + (((XT.ushrL (Int64.ofNat t2.1) (((3 - 1) + (-1)) + (-1))) &&& 1).toInt32)))), (.val (.int ((0 + 1) + 1))), (.val (.int (((0 + 1) + 1) + 1))), (.val (.long ((XT.ushrL (Int64.ofNat t2.1) (((3 - 1) + (-1)) + (-1))) &&& 1))), .second] [] [.inl ("com/example/reshelve/reshelve/service/sort/ZCurve", [(("com/example/reshelve/reshelve/service/sort/ZCurve", "dimensions", "I"), (.int (3))), (("com/example/reshelve/reshelve/service/sort/ZCurve", "bits", "I"), (.int (3))), (("com/example/reshelve/reshelve/service/sort/ZCurve", "words", "I"), (.int (1)))]), .inr (.long, [(.long (Int64.ofNat t1.1)), (.long (Int64.ofNat t2.1)), (.long (Int64.ofNat t3.1))]), .inr (.long, [(.long (0))])] _ _ _
        refine W.iinc (-1) d3_149 rfl rfl ?_
        refine W.goto d3_152 ?_
        refine W.iload d3_26 rfl ?_
        refine W.if_lt d3_28 (fun h28 => ?_) (fun h => False.elim (by revert h; decide))
        refine W.iload d3_155 rfl ?_
        refine W.if_le d3_157 (fun h => False.elim (by revert h; decide)) (fun h157 => ?_)
        refine W.aloadN d3_160 rfl rfl ?_
        refine W.iload d3_161 rfl ?_
        refine W.lloadN d3_163 rfl ?_
        refine W.bipush 64 d3_164 rfl ?_
        refine W.iload d3_166 rfl ?_
        refine W.isub d3_168 ?_
        refine W.lshl d3_169 ?_
        refine W.lastore (i := 0) d3_170 rfl ⟨by decide, by decide⟩ (by simp) ?_
        refine W.aloadN d3_171 rfl rfl ?_
        exact W.areturn d3_172 rfl rfl rfl (by decide) (by decide) (⟨rfl, by rw [own_k12 t1 t2 t3 q0 q1] <;> rfl⟩)
    · rw [q1]
      refine W.istore d3_129 rfl ?_
      show WB _ l Z n m3 131 [(.val (.ref 0)), (.val (.ref 1)), (.val (.ref 2)), (.val (.long (((((((((((((0 : Int64) <<< ((1 : Int32) &&& 0x3f).toInt64) ||| ((XT.ushrL (Int64.ofNat t1.1) (3 - 1)) &&& 1)) <<< ((1 : Int32) &&& 0x3f).toInt64) ||| ((XT.ushrL (Int64.ofNat t2.1) (3 - 1)) &&& 1)) <<< ((1 : Int32) &&& 0x3f).toInt64) ||| ((XT.ushrL (Int64.ofNat t3.1) (3 - 1)) &&& 1)) <<< ((1 : Int32) &&& 0x3f).toInt64) ||| ((XT.ushrL (Int64.ofNat t3.1) ((3 - 1) + (-1))) &&& 1)) <<< ((1 : Int32) &&& 0x3f).toInt64) ||| ((XT.ushrL (Int64.ofNat t1.1) ((3 - 1) + (-1))) &&& 1)) <<< ((1 : Int32) &&& 0x3f).toInt64) ||| ((XT.ushrL (Int64.ofNat t2.1) ((3 - 1) + (-1))) &&& 1)))), .second, (.val (.int ((((((0 + 1) + 1) + 1) + 1) + 1) + 1))), (.val (.int (0))), (.val (.int (3))), (.val (.int ((3 - 1) + (-1)))), (.val (.int (((0 + (((XT.ushrL (Int64.ofNat t3.1) ((3 - 1) + (-1))) &&& 1).toInt32)) + (((XT.ushrL (Int64.ofNat t1.1) ((3 - 1) + (-1))) &&& 1).toInt32)) + (((XT.ushrL (Int64.ofNat t2.1) ((3 - 1) + (-1))) &&& 1).toInt32)))), (.val (.int ((0 + 1) + 1))), (.val (.int (((0 + 1) + 1) + 1))), (.val (.long ((XT.ushrL (Int64.ofNat t2.1) ((3 - 1) + (-1))) &&& 1))), .second] [] [.inl ("com/example/reshelve/reshelve/service/sort/ZCurve", [(("com/example/reshelve/reshelve/service/sort/ZCurve", "dimensions", "I"), (.int (3))), (("com/example/reshelve/reshelve/service/sort/ZCurve", "bits", "I"), (.int (3))), (("com/example/reshelve/reshelve/service/sort/ZCurve", "words", "I"), (.int (1)))]), .inr (.long, [(.long (Int64.ofNat t1.1)), (.long (Int64.ofNat t2.1)), (.long (Int64.ofNat t3.1))]), .inr (.long, [(.long (0))])] _ _ _
      refine W.iload d3_131 rfl ?_
      refine W.aloadN d3_133 rfl rfl ?_
      refine W.getfield 0 d3_134 (hw _ (wd 10 rfl)) rfl rfl ?_
      refine W.icmp_lt d3_137 (fun h => False.elim (by revert h; decide)) (fun h137 => ?_)
      refine W.iload d3_140 rfl ?_
      refine W.aloadN d3_142 rfl rfl ?_
      refine W.getfield 0 d3_143 (hw _ (wd 10 rfl)) rfl rfl ?_
      refine W.isub d3_146 ?_
      refine W.istore d3_147 rfl ?_
      refine W.iinc (-1) d3_149 rfl rfl ?_
      refine W.goto d3_152 ?_
      refine W.iload d3_26 rfl ?_
      refine W.if_lt d3_28 (fun h => False.elim (by revert h; decide)) (fun h28 => ?_)
      refine W.iconst 0 d3_31 rfl ?_
      refine W.istore d3_32 rfl ?_
      refine W.iload d3_34 rfl ?_
      refine W.istore d3_36 rfl ?_
      show WB _ l Z n m3 38 [(.val (.ref 0)), (.val (.ref 1)), (.val (.ref 2)), (.val (.long (((((((((((((0 : Int64) <<< ((1 : Int32) &&& 0x3f).toInt64) ||| ((XT.ushrL (Int64.ofNat t1.1) (3 - 1)) &&& 1)) <<< ((1 : Int32) &&& 0x3f).toInt64) ||| ((XT.ushrL (Int64.ofNat t2.1) (3 - 1)) &&& 1)) <<< ((1 : Int32) &&& 0x3f).toInt64) ||| ((XT.ushrL (Int64.ofNat t3.1) (3 - 1)) &&& 1)) <<< ((1 : Int32) &&& 0x3f).toInt64) ||| ((XT.ushrL (Int64.ofNat t3.1) ((3 - 1) + (-1))) &&& 1)) <<< ((1 : Int32) &&& 0x3f).toInt64) ||| ((XT.ushrL (Int64.ofNat t1.1) ((3 - 1) + (-1))) &&& 1)) <<< ((1 : Int32) &&& 0x3f).toInt64) ||| ((XT.ushrL (Int64.ofNat t2.1) ((3 - 1) + (-1))) &&& 1)))), .second, (.val (.int ((((((0 + 1) + 1) + 1) + 1) + 1) + 1))), (.val (.int (0))), (.val (.int (3 - 3))), (.val (.int (((3 - 1) + (-1)) + (-1)))), (.val (.int (0))), (.val (.int (3 - 3))), (.val (.int (((0 + 1) + 1) + 1))), (.val (.long ((XT.ushrL (Int64.ofNat t2.1) ((3 - 1) + (-1))) &&& 1))), .second] [] [.inl ("com/example/reshelve/reshelve/service/sort/ZCurve", [(("com/example/reshelve/reshelve/service/sort/ZCurve", "dimensions", "I"), (.int (3))), (("com/example/reshelve/reshelve/service/sort/ZCurve", "bits", "I"), (.int (3))), (("com/example/reshelve/reshelve/service/sort/ZCurve", "words", "I"), (.int (1)))]), .inr (.long, [(.long (Int64.ofNat t1.1)), (.long (Int64.ofNat t2.1)), (.long (Int64.ofNat t3.1))]), .inr (.long, [(.long (0))])] _ _ _
      refine W.iconst 0 d3_38 rfl ?_
      refine W.istore d3_39 rfl ?_
      show W l Z n m3 41 [(.val (.ref 0)), (.val (.ref 1)), (.val (.ref 2)), (.val (.long (((((((((((((0 : Int64) <<< ((1 : Int32) &&& 0x3f).toInt64) ||| ((XT.ushrL (Int64.ofNat t1.1) (3 - 1)) &&& 1)) <<< ((1 : Int32) &&& 0x3f).toInt64) ||| ((XT.ushrL (Int64.ofNat t2.1) (3 - 1)) &&& 1)) <<< ((1 : Int32) &&& 0x3f).toInt64) ||| ((XT.ushrL (Int64.ofNat t3.1) (3 - 1)) &&& 1)) <<< ((1 : Int32) &&& 0x3f).toInt64) ||| ((XT.ushrL (Int64.ofNat t3.1) ((3 - 1) + (-1))) &&& 1)) <<< ((1 : Int32) &&& 0x3f).toInt64) ||| ((XT.ushrL (Int64.ofNat t1.1) ((3 - 1) + (-1))) &&& 1)) <<< ((1 : Int32) &&& 0x3f).toInt64) ||| ((XT.ushrL (Int64.ofNat t2.1) ((3 - 1) + (-1))) &&& 1)))), .second, (.val (.int ((((((0 + 1) + 1) + 1) + 1) + 1) + 1))), (.val (.int (0))), (.val (.int (3 - 3))), (.val (.int (((3 - 1) + (-1)) + (-1)))), (.val (.int (0))), (.val (.int (3 - 3))), (.val (.int (0))), (.val (.long ((XT.ushrL (Int64.ofNat t2.1) ((3 - 1) + (-1))) &&& 1))), .second] [] [.inl ("com/example/reshelve/reshelve/service/sort/ZCurve", [(("com/example/reshelve/reshelve/service/sort/ZCurve", "dimensions", "I"), (.int (3))), (("com/example/reshelve/reshelve/service/sort/ZCurve", "bits", "I"), (.int (3))), (("com/example/reshelve/reshelve/service/sort/ZCurve", "words", "I"), (.int (1)))]), .inr (.long, [(.long (Int64.ofNat t1.1)), (.long (Int64.ofNat t2.1)), (.long (Int64.ofNat t3.1))]), .inr (.long, [(.long (0))])] _ _ _
      refine W.iload d3_41 rfl ?_
      refine W.aloadN d3_43 rfl rfl ?_
      refine W.getfield 0 d3_44 (hw _ (wd 10 rfl)) rfl rfl ?_
      refine W.icmp_ge d3_47 (fun h => False.elim (by revert h; decide)) (fun h47 => ?_)
      refine W.aloadN d3_50 rfl rfl ?_
      refine W.iload d3_51 rfl ?_
      refine W.laload (i := 0) d3_53 rfl ⟨by decide, by decide⟩ rfl ?_
      refine W.iload d3_54 rfl ?_
      refine W.lushr d3_56 ?_
      refine W.lconst 1 d3_57 rfl ?_
      refine W.land d3_58 ?_
      refine W.lstore d3_59 rfl ?_
      refine W.lloadN d3_61 rfl ?_
      refine W.iconst 1 d3_62 rfl ?_
      refine W.lshl d3_63 ?_
      refine W.lload d3_64 rfl ?_
      refine W.lor d3_66 ?_
      refine W.lstoreN d3_67 rfl ?_
      refine W.iinc 1 d3_68 rfl rfl ?_
      show WB _ l Z n m3 71 [(.val (.ref 0)), (.val (.ref 1)), (.val (.ref 2)), (.val (.long (((((((((((((((0 : Int64) <<< ((1 : Int32) &&& 0x3f).toInt64) ||| ((XT.ushrL (Int64.ofNat t1.1) (3 - 1)) &&& 1)) <<< ((1 : Int32) &&& 0x3f).toInt64) ||| ((XT.ushrL (Int64.ofNat t2.1) (3 - 1)) &&& 1)) <<< ((1 : Int32) &&& 0x3f).toInt64) ||| ((XT.ushrL (Int64.ofNat t3.1) (3 - 1)) &&& 1)) <<< ((1 : Int32) &&& 0x3f).toInt64) ||| ((XT.ushrL (Int64.ofNat t3.1) ((3 - 1) + (-1))) &&& 1)) <<< ((1 : Int32) &&& 0x3f).toInt64) ||| ((XT.ushrL (Int64.ofNat t1.1) ((3 - 1) + (-1))) &&& 1)) <<< ((1 : Int32) &&& 0x3f).toInt64) ||| ((XT.ushrL (Int64.ofNat t2.1) ((3 - 1) + (-1))) &&& 1)) <<< ((1 : Int32) &&& 0x3f).toInt64) ||| ((XT.ushrL (Int64.ofNat t1.1) (((3 - 1) + (-1)) + (-1))) &&& 1)))), .second, (.val (.int (((((((0 + 1) + 1) + 1) + 1) + 1) + 1) + 1))), (.val (.int (0))), (.val (.int (3 - 3))), (.val (.int (((3 - 1) + (-1)) + (-1)))), (.val (.int (0))), (.val (.int (3 - 3))), (.val (.int (0))), (.val (.long ((XT.ushrL (Int64.ofNat t1.1) (((3 - 1) + (-1)) + (-1))) &&& 1))), .second] [] [.inl ("com/example/reshelve/reshelve/service/sort/ZCurve", [(("com/example/reshelve/reshelve/service/sort/ZCurve", "dimensions", "I"), (.int (3))), (("com/example/reshelve/reshelve/service/sort/ZCurve", "bits", "I"), (.int (3))), (("com/example/reshelve/reshelve/service/sort/ZCurve", "words", "I"), (.int (1)))]), .inr (.long, [(.long (Int64.ofNat t1.1)), (.long (Int64.ofNat t2.1)), (.long (Int64.ofNat t3.1))]), .inr (.long, [(.long (0))])] _ _ _
      refine W.iload d3_71 rfl ?_
      refine W.bipush 64 d3_73 rfl ?_
      refine W.icmp_ne d3_75 (fun h75 => ?_) (fun h => False.elim (by revert h; decide))
      refine W.iload d3_89 rfl ?_
      refine W.lload d3_91 rfl ?_
      refine W.l2i d3_93 ?_
      refine W.iadd d3_94 ?_
      refine W.istore d3_95 rfl ?_
      refine W.iload d3_97 rfl ?_
      refine W.iconst 1 d3_99 rfl ?_
      refine W.iadd d3_100 ?_
      refine W.aloadN d3_101 rfl rfl ?_
      refine W.getfield 0 d3_102 (hw _ (wd 10 rfl)) rfl rfl ?_
      refine W.icmp_ne d3_105 (fun h105 => ?_) (fun h => False.elim (by revert h; decide))
      refine W.iload d3_112 rfl ?_
      refine W.iconst 1 d3_114 rfl ?_
      refine W.iadd d3_115 ?_
      refine W.istore d3_116 rfl ?_
      refine W.iinc 1 d3_118 rfl rfl ?_
      refine W.goto d3_121 ?_
      show W l Z n m3 41 [(.val (.ref 0)), (.val (.ref 1)), (.val (.ref 2)), (.val (.long (((((((((((((((0 : Int64) <<< ((1 : Int32) &&& 0x3f).toInt64) ||| ((XT.ushrL (Int64.ofNat t1.1) (3 - 1)) &&& 1)) <<< ((1 : Int32) &&& 0x3f).toInt64) ||| ((XT.ushrL (Int64.ofNat t2.1) (3 - 1)) &&& 1)) <<< ((1 : Int32) &&& 0x3f).toInt64) ||| ((XT.ushrL (Int64.ofNat t3.1) (3 - 1)) &&& 1)) <<< ((1 : Int32) &&& 0x3f).toInt64) ||| ((XT.ushrL (Int64.ofNat t3.1) ((3 - 1) + (-1))) &&& 1)) <<< ((1 : Int32) &&& 0x3f).toInt64) ||| ((XT.ushrL (Int64.ofNat t1.1) ((3 - 1) + (-1))) &&& 1)) <<< ((1 : Int32) &&& 0x3f).toInt64) ||| ((XT.ushrL (Int64.ofNat t2.1) ((3 - 1) + (-1))) &&& 1)) <<< ((1 : Int32) &&& 0x3f).toInt64) ||| ((XT.ushrL (Int64.ofNat t1.1) (((3 - 1) + (-1)) + (-1))) &&& 1)))), .second, (.val (.int (((((((0 + 1) + 1) + 1) + 1) + 1) + 1) + 1))), (.val (.int (0))), (.val (.int (3 - 3))), (.val (.int (((3 - 1) + (-1)) + (-1)))), (.val (.int (0 + (((XT.ushrL (Int64.ofNat t1.1) (((3 - 1) + (-1)) + (-1))) &&& 1).toInt32)))), (.val (.int ((3 - 3) + 1))), (.val (.int (0 + 1))), (.val (.long ((XT.ushrL (Int64.ofNat t1.1) (((3 - 1) + (-1)) + (-1))) &&& 1))), .second] [] [.inl ("com/example/reshelve/reshelve/service/sort/ZCurve", [(("com/example/reshelve/reshelve/service/sort/ZCurve", "dimensions", "I"), (.int (3))), (("com/example/reshelve/reshelve/service/sort/ZCurve", "bits", "I"), (.int (3))), (("com/example/reshelve/reshelve/service/sort/ZCurve", "words", "I"), (.int (1)))]), .inr (.long, [(.long (Int64.ofNat t1.1)), (.long (Int64.ofNat t2.1)), (.long (Int64.ofNat t3.1))]), .inr (.long, [(.long (0))])] _ _ _
      refine W.iload d3_41 rfl ?_
      refine W.aloadN d3_43 rfl rfl ?_
      refine W.getfield 0 d3_44 (hw _ (wd 10 rfl)) rfl rfl ?_
      refine W.icmp_ge d3_47 (fun h => False.elim (by revert h; decide)) (fun h47 => ?_)
      refine W.aloadN d3_50 rfl rfl ?_
      refine W.iload d3_51 rfl ?_
      refine W.laload (i := 1) d3_53 rfl ⟨by decide, by decide⟩ rfl ?_
      refine W.iload d3_54 rfl ?_
      refine W.lushr d3_56 ?_
      refine W.lconst 1 d3_57 rfl ?_
      refine W.land d3_58 ?_
      refine W.lstore d3_59 rfl ?_
      show WB _ l Z n m3 61 [(.val (.ref 0)), (.val (.ref 1)), (.val (.ref 2)), (.val (.long (((((((((((((((0 : Int64) <<< ((1 : Int32) &&& 0x3f).toInt64) ||| ((XT.ushrL (Int64.ofNat t1.1) (3 - 1)) &&& 1)) <<< ((1 : Int32) &&& 0x3f).toInt64) ||| ((XT.ushrL (Int64.ofNat t2.1) (3 - 1)) &&& 1)) <<< ((1 : Int32) &&& 0x3f).toInt64) ||| ((XT.ushrL (Int64.ofNat t3.1) (3 - 1)) &&& 1)) <<< ((1 : Int32) &&& 0x3f).toInt64) ||| ((XT.ushrL (Int64.ofNat t3.1) ((3 - 1) + (-1))) &&& 1)) <<< ((1 : Int32) &&& 0x3f).toInt64) ||| ((XT.ushrL (Int64.ofNat t1.1) ((3 - 1) + (-1))) &&& 1)) <<< ((1 : Int32) &&& 0x3f).toInt64) ||| ((XT.ushrL (Int64.ofNat t2.1) ((3 - 1) + (-1))) &&& 1)) <<< ((1 : Int32) &&& 0x3f).toInt64) ||| ((XT.ushrL (Int64.ofNat t1.1) (((3 - 1) + (-1)) + (-1))) &&& 1)))), .second, (.val (.int (((((((0 + 1) + 1) + 1) + 1) + 1) + 1) + 1))), (.val (.int (0))), (.val (.int (3 - 3))), (.val (.int (((3 - 1) + (-1)) + (-1)))), (.val (.int (0 + (((XT.ushrL (Int64.ofNat t1.1) (((3 - 1) + (-1)) + (-1))) &&& 1).toInt32)))), (.val (.int ((3 - 3) + 1))), (.val (.int (0 + 1))), (.val (.long ((XT.ushrL (Int64.ofNat t2.1) (((3 - 1) + (-1)) + (-1))) &&& 1))), .second] [] [.inl ("com/example/reshelve/reshelve/service/sort/ZCurve", [(("com/example/reshelve/reshelve/service/sort/ZCurve", "dimensions", "I"), (.int (3))), (("com/example/reshelve/reshelve/service/sort/ZCurve", "bits", "I"), (.int (3))), (("com/example/reshelve/reshelve/service/sort/ZCurve", "words", "I"), (.int (1)))]), .inr (.long, [(.long (Int64.ofNat t1.1)), (.long (Int64.ofNat t2.1)), (.long (Int64.ofNat t3.1))]), .inr (.long, [(.long (0))])] _ _ _
      refine W.lloadN d3_61 rfl ?_
      refine W.iconst 1 d3_62 rfl ?_
      refine W.lshl d3_63 ?_
      refine W.lload d3_64 rfl ?_
      refine W.lor d3_66 ?_
      refine W.lstoreN d3_67 rfl ?_
      refine W.iinc 1 d3_68 rfl rfl ?_
      refine W.iload d3_71 rfl ?_
      refine W.bipush 64 d3_73 rfl ?_
      refine W.icmp_ne d3_75 (fun h75 => ?_) (fun h => False.elim (by revert h; decide))
      refine W.iload d3_89 rfl ?_
      refine W.lload d3_91 rfl ?_
      refine W.l2i d3_93 ?_
      refine W.iadd d3_94 ?_
      refine W.istore d3_95 rfl ?_
      refine W.iload d3_97 rfl ?_
      refine W.iconst 1 d3_99 rfl ?_
      refine W.iadd d3_100 ?_
      refine W.aloadN d3_101 rfl rfl ?_
      refine W.getfield 0 d3_102 (hw _ (wd 10 rfl)) rfl rfl ?_
      refine W.icmp_ne d3_105 (fun h105 => ?_) (fun h => False.elim (by revert h; decide))
      refine W.iload d3_112 rfl ?_
      refine W.iconst 1 d3_114 rfl ?_
      refine W.iadd d3_115 ?_
      refine W.istore d3_116 rfl ?_
      show WB _ l Z n m3 118 [(.val (.ref 0)), (.val (.ref 1)), (.val (.ref 2)), (.val (.long (((((((((((((((((0 : Int64) <<< ((1 : Int32) &&& 0x3f).toInt64) ||| ((XT.ushrL (Int64.ofNat t1.1) (3 - 1)) &&& 1)) <<< ((1 : Int32) &&& 0x3f).toInt64) ||| ((XT.ushrL (Int64.ofNat t2.1) (3 - 1)) &&& 1)) <<< ((1 : Int32) &&& 0x3f).toInt64) ||| ((XT.ushrL (Int64.ofNat t3.1) (3 - 1)) &&& 1)) <<< ((1 : Int32) &&& 0x3f).toInt64) ||| ((XT.ushrL (Int64.ofNat t3.1) ((3 - 1) + (-1))) &&& 1)) <<< ((1 : Int32) &&& 0x3f).toInt64) ||| ((XT.ushrL (Int64.ofNat t1.1) ((3 - 1) + (-1))) &&& 1)) <<< ((1 : Int32) &&& 0x3f).toInt64) ||| ((XT.ushrL (Int64.ofNat t2.1) ((3 - 1) + (-1))) &&& 1)) <<< ((1 : Int32) &&& 0x3f).toInt64) ||| ((XT.ushrL (Int64.ofNat t1.1) (((3 - 1) + (-1)) + (-1))) &&& 1)) <<< ((1 : Int32) &&& 0x3f).toInt64) ||| ((XT.ushrL (Int64.ofNat t2.1) (((3 - 1) + (-1)) + (-1))) &&& 1)))), .second, (.val (.int ((((((((0 + 1) + 1) + 1) + 1) + 1) + 1) + 1) + 1))), (.val (.int (0))), (.val (.int (3 - 3))), (.val (.int (((3 - 1) + (-1)) + (-1)))), (.val (.int ((0 + (((XT.ushrL (Int64.ofNat t1.1) (((3 - 1) + (-1)) + (-1))) &&& 1).toInt32)) + (((XT.ushrL (Int64.ofNat t2.1) (((3 - 1) + (-1)) + (-1))) &&& 1).toInt32)))), (.val (.int (((3 - 3) + 1) + 1))), (.val (.int (0 + 1))), (.val (.long ((XT.ushrL (Int64.ofNat t2.1) (((3 - 1) + (-1)) + (-1))) &&& 1))), .second] [] [.inl ("com/example/reshelve/reshelve/service/sort/ZCurve", [(("com/example/reshelve/reshelve/service/sort/ZCurve", "dimensions", "I"), (.int (3))), (("com/example/reshelve/reshelve/service/sort/ZCurve", "bits", "I"), (.int (3))), (("com/example/reshelve/reshelve/service/sort/ZCurve", "words", "I"), (.int (1)))]), .inr (.long, [(.long (Int64.ofNat t1.1)), (.long (Int64.ofNat t2.1)), (.long (Int64.ofNat t3.1))]), .inr (.long, [(.long (0))])] _ _ _
      refine W.iinc 1 d3_118 rfl rfl ?_
      refine W.goto d3_121 ?_
      show W l Z n m3 41 [(.val (.ref 0)), (.val (.ref 1)), (.val (.ref 2)), (.val (.long (((((((((((((((((0 : Int64) <<< ((1 : Int32) &&& 0x3f).toInt64) ||| ((XT.ushrL (Int64.ofNat t1.1) (3 - 1)) &&& 1)) <<< ((1 : Int32) &&& 0x3f).toInt64) ||| ((XT.ushrL (Int64.ofNat t2.1) (3 - 1)) &&& 1)) <<< ((1 : Int32) &&& 0x3f).toInt64) ||| ((XT.ushrL (Int64.ofNat t3.1) (3 - 1)) &&& 1)) <<< ((1 : Int32) &&& 0x3f).toInt64) ||| ((XT.ushrL (Int64.ofNat t3.1) ((3 - 1) + (-1))) &&& 1)) <<< ((1 : Int32) &&& 0x3f).toInt64) ||| ((XT.ushrL (Int64.ofNat t1.1) ((3 - 1) + (-1))) &&& 1)) <<< ((1 : Int32) &&& 0x3f).toInt64) ||| ((XT.ushrL (Int64.ofNat t2.1) ((3 - 1) + (-1))) &&& 1)) <<< ((1 : Int32) &&& 0x3f).toInt64) ||| ((XT.ushrL (Int64.ofNat t1.1) (((3 - 1) + (-1)) + (-1))) &&& 1)) <<< ((1 : Int32) &&& 0x3f).toInt64) ||| ((XT.ushrL (Int64.ofNat t2.1) (((3 - 1) + (-1)) + (-1))) &&& 1)))), .second, (.val (.int ((((((((0 + 1) + 1) + 1) + 1) + 1) + 1) + 1) + 1))), (.val (.int (0))), (.val (.int (3 - 3))), (.val (.int (((3 - 1) + (-1)) + (-1)))), (.val (.int ((0 + (((XT.ushrL (Int64.ofNat t1.1) (((3 - 1) + (-1)) + (-1))) &&& 1).toInt32)) + (((XT.ushrL (Int64.ofNat t2.1) (((3 - 1) + (-1)) + (-1))) &&& 1).toInt32)))), (.val (.int (((3 - 3) + 1) + 1))), (.val (.int ((0 + 1) + 1))), (.val (.long ((XT.ushrL (Int64.ofNat t2.1) (((3 - 1) + (-1)) + (-1))) &&& 1))), .second] [] [.inl ("com/example/reshelve/reshelve/service/sort/ZCurve", [(("com/example/reshelve/reshelve/service/sort/ZCurve", "dimensions", "I"), (.int (3))), (("com/example/reshelve/reshelve/service/sort/ZCurve", "bits", "I"), (.int (3))), (("com/example/reshelve/reshelve/service/sort/ZCurve", "words", "I"), (.int (1)))]), .inr (.long, [(.long (Int64.ofNat t1.1)), (.long (Int64.ofNat t2.1)), (.long (Int64.ofNat t3.1))]), .inr (.long, [(.long (0))])] _ _ _
      refine W.iload d3_41 rfl ?_
      refine W.aloadN d3_43 rfl rfl ?_
      refine W.getfield 0 d3_44 (hw _ (wd 10 rfl)) rfl rfl ?_
      refine W.icmp_ge d3_47 (fun h => False.elim (by revert h; decide)) (fun h47 => ?_)
      refine W.aloadN d3_50 rfl rfl ?_
      refine W.iload d3_51 rfl ?_
      refine W.laload (i := 2) d3_53 rfl ⟨by decide, by decide⟩ rfl ?_
      refine W.iload d3_54 rfl ?_
      refine W.lushr d3_56 ?_
      refine W.lconst 1 d3_57 rfl ?_
      refine W.land d3_58 ?_
      refine W.lstore d3_59 rfl ?_
      refine W.lloadN d3_61 rfl ?_
      refine W.iconst 1 d3_62 rfl ?_
      refine W.lshl d3_63 ?_
      refine W.lload d3_64 rfl ?_
      refine W.lor d3_66 ?_
      refine W.lstoreN d3_67 rfl ?_
      refine W.iinc 1 d3_68 rfl rfl ?_
      show WB _ l Z n m3 71 [(.val (.ref 0)), (.val (.ref 1)), (.val (.ref 2)), (.val (.long (((((((((((((((((((0 : Int64) <<< ((1 : Int32) &&& 0x3f).toInt64) ||| ((XT.ushrL (Int64.ofNat t1.1) (3 - 1)) &&& 1)) <<< ((1 : Int32) &&& 0x3f).toInt64) ||| ((XT.ushrL (Int64.ofNat t2.1) (3 - 1)) &&& 1)) <<< ((1 : Int32) &&& 0x3f).toInt64) ||| ((XT.ushrL (Int64.ofNat t3.1) (3 - 1)) &&& 1)) <<< ((1 : Int32) &&& 0x3f).toInt64) ||| ((XT.ushrL (Int64.ofNat t3.1) ((3 - 1) + (-1))) &&& 1)) <<< ((1 : Int32) &&& 0x3f).toInt64) ||| ((XT.ushrL (Int64.ofNat t1.1) ((3 - 1) + (-1))) &&& 1)) <<< ((1 : Int32) &&& 0x3f).toInt64) ||| ((XT.ushrL (Int64.ofNat t2.1) ((3 - 1) + (-1))) &&& 1)) <<< ((1 : Int32) &&& 0x3f).toInt64) ||| ((XT.ushrL (Int64.ofNat t1.1) (((3 - 1) + (-1)) + (-1))) &&& 1)) <<< ((1 : Int32) &&& 0x3f).toInt64) ||| ((XT.ushrL (Int64.ofNat t2.1) (((3 - 1) + (-1)) + (-1))) &&& 1)) <<< ((1 : Int32) &&& 0x3f).toInt64) ||| ((XT.ushrL (Int64.ofNat t3.1) (((3 - 1) + (-1)) + (-1))) &&& 1)))), .second, (.val (.int (((((((((0 + 1) + 1) + 1) + 1) + 1) + 1) + 1) + 1) + 1))), (.val (.int (0))), (.val (.int (3 - 3))), (.val (.int (((3 - 1) + (-1)) + (-1)))), (.val (.int ((0 + (((XT.ushrL (Int64.ofNat t1.1) (((3 - 1) + (-1)) + (-1))) &&& 1).toInt32)) + (((XT.ushrL (Int64.ofNat t2.1) (((3 - 1) + (-1)) + (-1))) &&& 1).toInt32)))), (.val (.int (((3 - 3) + 1) + 1))), (.val (.int ((0 + 1) + 1))), (.val (.long ((XT.ushrL (Int64.ofNat t3.1) (((3 - 1) + (-1)) + (-1))) &&& 1))), .second] [] [.inl ("com/example/reshelve/reshelve/service/sort/ZCurve", [(("com/example/reshelve/reshelve/service/sort/ZCurve", "dimensions", "I"), (.int (3))), (("com/example/reshelve/reshelve/service/sort/ZCurve", "bits", "I"), (.int (3))), (("com/example/reshelve/reshelve/service/sort/ZCurve", "words", "I"), (.int (1)))]), .inr (.long, [(.long (Int64.ofNat t1.1)), (.long (Int64.ofNat t2.1)), (.long (Int64.ofNat t3.1))]), .inr (.long, [(.long (0))])] _ _ _
      refine W.iload d3_71 rfl ?_
      refine W.bipush 64 d3_73 rfl ?_
      refine W.icmp_ne d3_75 (fun h75 => ?_) (fun h => False.elim (by revert h; decide))
      refine W.iload d3_89 rfl ?_
      refine W.lload d3_91 rfl ?_
      refine W.l2i d3_93 ?_
      refine W.iadd d3_94 ?_
      refine W.istore d3_95 rfl ?_
      refine W.iload d3_97 rfl ?_
      refine W.iconst 1 d3_99 rfl ?_
      refine W.iadd d3_100 ?_
      refine W.aloadN d3_101 rfl rfl ?_
      refine W.getfield 0 d3_102 (hw _ (wd 10 rfl)) rfl rfl ?_
      refine W.icmp_ne d3_105 (fun h => False.elim (by revert h; decide)) (fun h105 => ?_)
      refine W.iconst 0 d3_108 rfl ?_
      refine W.goto d3_109 ?_
      refine W.istore d3_116 rfl ?_
      refine W.iinc 1 d3_118 rfl rfl ?_
      refine W.goto d3_121 ?_
      show W l Z n m3 41 [(.val (.ref 0)), (.val (.ref 1)), (.val (.ref 2)), (.val (.long (((((((((((((((((((0 : Int64) <<< ((1 : Int32) &&& 0x3f).toInt64) ||| ((XT.ushrL (Int64.ofNat t1.1) (3 - 1)) &&& 1)) <<< ((1 : Int32) &&& 0x3f).toInt64) ||| ((XT.ushrL (Int64.ofNat t2.1) (3 - 1)) &&& 1)) <<< ((1 : Int32) &&& 0x3f).toInt64) ||| ((XT.ushrL (Int64.ofNat t3.1) (3 - 1)) &&& 1)) <<< ((1 : Int32) &&& 0x3f).toInt64) ||| ((XT.ushrL (Int64.ofNat t3.1) ((3 - 1) + (-1))) &&& 1)) <<< ((1 : Int32) &&& 0x3f).toInt64) ||| ((XT.ushrL (Int64.ofNat t1.1) ((3 - 1) + (-1))) &&& 1)) <<< ((1 : Int32) &&& 0x3f).toInt64) ||| ((XT.ushrL (Int64.ofNat t2.1) ((3 - 1) + (-1))) &&& 1)) <<< ((1 : Int32) &&& 0x3f).toInt64) ||| ((XT.ushrL (Int64.ofNat t1.1) (((3 - 1) + (-1)) + (-1))) &&& 1)) <<< ((1 : Int32) &&& 0x3f).toInt64) ||| ((XT.ushrL (Int64.ofNat t2.1) (((3 - 1) + (-1)) + (-1))) &&& 1)) <<< ((1 : Int32) &&& 0x3f).toInt64) ||| ((XT.ushrL (Int64.ofNat t3.1) (((3 - 1) + (-1)) + (-1))) &&& 1)))), .second, (.val (.int (((((((((0 + 1) + 1) + 1) + 1) + 1) + 1) + 1) + 1) + 1))), (.val (.int (0))), (.val (.int (3 - 3))), (.val (.int (((3 - 1) + (-1)) + (-1)))), (.val (.int (((0 + (((XT.ushrL (Int64.ofNat t1.1) (((3 - 1) + (-1)) + (-1))) &&& 1).toInt32)) + (((XT.ushrL (Int64.ofNat t2.1) (((3 - 1) + (-1)) + (-1))) &&& 1).toInt32)) + (((XT.ushrL (Int64.ofNat t3.1) (((3 - 1) + (-1)) + (-1))) &&& 1).toInt32)))), (.val (.int (0))), (.val (.int (((0 + 1) + 1) + 1))), (.val (.long ((XT.ushrL (Int64.ofNat t3.1) (((3 - 1) + (-1)) + (-1))) &&& 1))), .second] [] [.inl ("com/example/reshelve/reshelve/service/sort/ZCurve", [(("com/example/reshelve/reshelve/service/sort/ZCurve", "dimensions", "I"), (.int (3))), (("com/example/reshelve/reshelve/service/sort/ZCurve", "bits", "I"), (.int (3))), (("com/example/reshelve/reshelve/service/sort/ZCurve", "words", "I"), (.int (1)))]), .inr (.long, [(.long (Int64.ofNat t1.1)), (.long (Int64.ofNat t2.1)), (.long (Int64.ofNat t3.1))]), .inr (.long, [(.long (0))])] _ _ _
      refine W.iload d3_41 rfl ?_
      refine W.aloadN d3_43 rfl rfl ?_
      refine W.getfield 0 d3_44 (hw _ (wd 10 rfl)) rfl rfl ?_
      refine W.icmp_ge d3_47 (fun h47 => ?_) (fun h => False.elim (by revert h; decide))
      refine W.iload d3_124 rfl ?_
      refine W.iload d3_126 rfl ?_
      refine W.iadd d3_128 ?_
      refine W.istore d3_129 rfl ?_
      show WB _ l Z n m3 131 [(.val (.ref 0)), (.val (.ref 1)), (.val (.ref 2)), (.val (.long (((((((((((((((((((0 : Int64) <<< ((1 : Int32) &&& 0x3f).toInt64) ||| ((XT.ushrL (Int64.ofNat t1.1) (3 - 1)) &&& 1)) <<< ((1 : Int32) &&& 0x3f).toInt64) ||| ((XT.ushrL (Int64.ofNat t2.1) (3 - 1)) &&& 1)) <<< ((1 : Int32) &&& 0x3f).toInt64) ||| ((XT.ushrL (Int64.ofNat t3.1) (3 - 1)) &&& 1)) <<< ((1 : Int32) &&& 0x3f).toInt64) ||| ((XT.ushrL (Int64.ofNat t3.1) ((3 - 1) + (-1))) &&& 1)) <<< ((1 : Int32) &&& 0x3f).toInt64) ||| ((XT.ushrL (Int64.ofNat t1.1) ((3 - 1) + (-1))) &&& 1)) <<< ((1 : Int32) &&& 0x3f).toInt64) ||| ((XT.ushrL (Int64.ofNat t2.1) ((3 - 1) + (-1))) &&& 1)) <<< ((1 : Int32) &&& 0x3f).toInt64) ||| ((XT.ushrL (Int64.ofNat t1.1) (((3 - 1) + (-1)) + (-1))) &&& 1)) <<< ((1 : Int32) &&& 0x3f).toInt64) ||| ((XT.ushrL (Int64.ofNat t2.1) (((3 - 1) + (-1)) + (-1))) &&& 1)) <<< ((1 : Int32) &&& 0x3f).toInt64) ||| ((XT.ushrL (Int64.ofNat t3.1) (((3 - 1) + (-1)) + (-1))) &&& 1)))), .second, (.val (.int (((((((((0 + 1) + 1) + 1) + 1) + 1) + 1) + 1) + 1) + 1))), (.val (.int (0))), (.val (.int ((3 - 3) + (((0 + (((XT.ushrL (Int64.ofNat t1.1) (((3 - 1) + (-1)) + (-1))) &&& 1).toInt32)) + (((XT.ushrL (Int64.ofNat t2.1) (((3 - 1) + (-1)) + (-1))) &&& 1).toInt32)) + (((XT.ushrL (Int64.ofNat t3.1) (((3 - 1) + (-1)) + (-1))) &&& 1).toInt32))))), (.val (.int (((3 - 1) + (-1)) + (-1)))), (.val (.int (((0 + (((XT.ushrL (Int64.ofNat t1.1) (((3 - 1) + (-1)) + (-1))) &&& 1).toInt32)) + (((XT.ushrL (Int64.ofNat t2.1) (((3 - 1) + (-1)) + (-1))) &&& 1).toInt32)) + (((XT.ushrL (Int64.ofNat t3.1) (((3 - 1) + (-1)) + (-1))) &&& 1).toInt32)))), (.val (.int (0))), (.val (.int (((0 + 1) + 1) + 1))), (.val (.long ((XT.ushrL (Int64.ofNat t3.1) (((3 - 1) + (-1)) + (-1))) &&& 1))), .second] [] [.inl ("com/example/reshelve/reshelve/service/sort/ZCurve", [(("com/example/reshelve/reshelve/service/sort/ZCurve", "dimensions", "I"), (.int (3))), (("com/example/reshelve/reshelve/service/sort/ZCurve", "bits", "I"), (.int (3))), (("com/example/reshelve/reshelve/service/sort/ZCurve", "words", "I"), (.int (1)))]), .inr (.long, [(.long (Int64.ofNat t1.1)), (.long (Int64.ofNat t2.1)), (.long (Int64.ofNat t3.1))]), .inr (.long, [(.long (0))])] _ _ _
      refine W.iload d3_131 rfl ?_
      refine W.aloadN d3_133 rfl rfl ?_
      refine W.getfield 0 d3_134 (hw _ (wd 10 rfl)) rfl rfl ?_
      refine W.icmp_lt d3_137 (fun h137 => ?_) (fun h137 => ?_)
      · refine W.iinc (-1) d3_149 rfl rfl ?_
        refine W.goto d3_152 ?_
        refine W.iload d3_26 rfl ?_
        refine W.if_lt d3_28 (fun h28 => ?_) (fun h => False.elim (by revert h; decide))
        refine W.iload d3_155 rfl ?_
        refine W.if_le d3_157 (fun h => False.elim (by revert h; decide)) (fun h157 => ?_)
        refine W.aloadN d3_160 rfl rfl ?_
        refine W.iload d3_161 rfl ?_
        refine W.lloadN d3_163 rfl ?_
        refine W.bipush 64 d3_164 rfl ?_
        refine W.iload d3_166 rfl ?_
        refine W.isub d3_168 ?_
        refine W.lshl d3_169 ?_
        refine W.lastore (i := 0) d3_170 rfl ⟨by decide, by decide⟩ (by simp) ?_
        refine W.aloadN d3_171 rfl rfl ?_
        exact W.areturn d3_172 rfl rfl rfl (by decide) (by decide) (⟨rfl, by rw [own_k13 t1 t2 t3 q0 q1] <;> rfl⟩)
      · refine W.iload d3_140 rfl ?_
        refine W.aloadN d3_142 rfl rfl ?_
        refine W.getfield 0 d3_143 (hw _ (wd 10 rfl)) rfl rfl ?_
        refine W.isub d3_146 ?_
        refine W.istore d3_147 rfl ?_
        refine W.iinc (-1) d3_149 rfl rfl ?_
        refine W.goto d3_152 ?_
        refine W.iload d3_26 rfl ?_
        refine W.if_lt d3_28 (fun h28 => ?_) (fun h => False.elim (by revert h; decide))
        refine W.iload d3_155 rfl ?_
        refine W.if_le d3_157 (fun h => False.elim (by revert h; decide)) (fun h157 => ?_)
        refine W.aloadN d3_160 rfl rfl ?_
        refine W.iload d3_161 rfl ?_
        refine W.lloadN d3_163 rfl ?_
        refine W.bipush 64 d3_164 rfl ?_
        refine W.iload d3_166 rfl ?_
        refine W.isub d3_168 ?_
        refine W.lshl d3_169 ?_
        refine W.lastore (i := 0) d3_170 rfl ⟨by decide, by decide⟩ (by simp) ?_
        refine W.aloadN d3_171 rfl rfl ?_
        exact W.areturn d3_172 rfl rfl rfl (by decide) (by decide) (⟨rfl, by rw [own_k13 t1 t2 t3 q0 q1] <;> rfl⟩)
    · rw [q1]
      refine W.istore d3_129 rfl ?_
      show WB _ l Z n m3 131 [(.val (.ref 0)), (.val (.ref 1)), (.val (.ref 2)), (.val (.long (((((((((((((0 : Int64) <<< ((1 : Int32) &&& 0x3f).toInt64) ||| ((XT.ushrL (Int64.ofNat t1.1) (3 - 1)) &&& 1)) <<< ((1 : Int32) &&& 0x3f).toInt64) ||| ((XT.ushrL (Int64.ofNat t2.1) (3 - 1)) &&& 1)) <<< ((1 : Int32) &&& 0x3f).toInt64) ||| ((XT.ushrL (Int64.ofNat t3.1) (3 - 1)) &&& 1)) <<< ((1 : Int32) &&& 0x3f).toInt64) ||| ((XT.ushrL (Int64.ofNat t3.1) ((3 - 1) + (-1))) &&& 1)) <<< ((1 : Int32) &&& 0x3f).toInt64) ||| ((XT.ushrL (Int64.ofNat t1.1) ((3 - 1) + (-1))) &&& 1)) <<< ((1 : Int32) &&& 0x3f).toInt64) ||| ((XT.ushrL (Int64.ofNat t2.1) ((3 - 1) + (-1))) &&& 1)))), .second, (.val (.int ((((((0 + 1) + 1) + 1) + 1) + 1) + 1))), (.val (.int (0))), (.val (.int (4))), (.val (.int ((3 - 1) + (-1)))), (.val (.int (((0 + (((XT.ushrL (Int64.ofNat t3.1) ((3 - 1) + (-1))) &&& 1).toInt32)) + (((XT.ushrL (Int64.ofNat t1.1) ((3 - 1) + (-1))) &&& 1).toInt32)) + (((XT.ushrL (Int64.ofNat t2.1) ((3 - 1) + (-1))) &&& 1).toInt32)))), (.val (.int ((0 + 1) + 1))), (.val (.int (((0 + 1) + 1) + 1))), (.val (.long ((XT.ushrL (Int64.ofNat t2.1) ((3 - 1) + (-1))) &&& 1))), .second] [] [.inl ("com/example/reshelve/reshelve/service/sort/ZCurve", [(("com/example/reshelve/reshelve/service/sort/ZCurve", "dimensions", "I"), (.int (3))), (("com/example/reshelve/reshelve/service/sort/ZCurve", "bits", "I"), (.int (3))), (("com/example/reshelve/reshelve/service/sort/ZCurve", "words", "I"), (.int (1)))]), .inr (.long, [(.long (Int64.ofNat t1.1)), (.long (Int64.ofNat t2.1)), (.long (Int64.ofNat t3.1))]), .inr (.long, [(.long (0))])] _ _ _
      refine W.iload d3_131 rfl ?_
      refine W.aloadN d3_133 rfl rfl ?_
      refine W.getfield 0 d3_134 (hw _ (wd 10 rfl)) rfl rfl ?_
      refine W.icmp_lt d3_137 (fun h => False.elim (by revert h; decide)) (fun h137 => ?_)
      refine W.iload d3_140 rfl ?_
      refine W.aloadN d3_142 rfl rfl ?_
      refine W.getfield 0 d3_143 (hw _ (wd 10 rfl)) rfl rfl ?_
      refine W.isub d3_146 ?_
      refine W.istore d3_147 rfl ?_
      refine W.iinc (-1) d3_149 rfl rfl ?_
      refine W.goto d3_152 ?_
      refine W.iload d3_26 rfl ?_
      refine W.if_lt d3_28 (fun h => False.elim (by revert h; decide)) (fun h28 => ?_)
      refine W.iconst 0 d3_31 rfl ?_
      refine W.istore d3_32 rfl ?_
      refine W.iload d3_34 rfl ?_
      refine W.istore d3_36 rfl ?_
      show WB _ l Z n m3 38 [(.val (.ref 0)), (.val (.ref 1)), (.val (.ref 2)), (.val (.long (((((((((((((0 : Int64) <<< ((1 : Int32) &&& 0x3f).toInt64) ||| ((XT.ushrL (Int64.ofNat t1.1) (3 - 1)) &&& 1)) <<< ((1 : Int32) &&& 0x3f).toInt64) ||| ((XT.ushrL (Int64.ofNat t2.1) (3 - 1)) &&& 1)) <<< ((1 : Int32) &&& 0x3f).toInt64) ||| ((XT.ushrL (Int64.ofNat t3.1) (3 - 1)) &&& 1)) <<< ((1 : Int32) &&& 0x3f).toInt64) ||| ((XT.ushrL (Int64.ofNat t3.1) ((3 - 1) + (-1))) &&& 1)) <<< ((1 : Int32) &&& 0x3f).toInt64) ||| ((XT.ushrL (Int64.ofNat t1.1) ((3 - 1) + (-1))) &&& 1)) <<< ((1 : Int32) &&& 0x3f).toInt64) ||| ((XT.ushrL (Int64.ofNat t2.1) ((3 - 1) + (-1))) &&& 1)))), .second, (.val (.int ((((((0 + 1) + 1) + 1) + 1) + 1) + 1))), (.val (.int (0))), (.val (.int (4 - 3))), (.val (.int (((3 - 1) + (-1)) + (-1)))), (.val (.int (0))), (.val (.int (4 - 3))), (.val (.int (((0 + 1) + 1) + 1))), (.val (.long ((XT.ushrL (Int64.ofNat t2.1) ((3 - 1) + (-1))) &&& 1))), .second] [] [.inl ("com/example/reshelve/reshelve/service/sort/ZCurve", [(("com/example/reshelve/reshelve/service/sort/ZCurve", "dimensions", "I"), (.int (3))), (("com/example/reshelve/reshelve/service/sort/ZCurve", "bits", "I"), (.int (3))), (("com/example/reshelve/reshelve/service/sort/ZCurve", "words", "I"), (.int (1)))]), .inr (.long, [(.long (Int64.ofNat t1.1)), (.long (Int64.ofNat t2.1)), (.long (Int64.ofNat t3.1))]), .inr (.long, [(.long (0))])] _ _ _
      refine W.iconst 0 d3_38 rfl ?_
      refine W.istore d3_39 rfl ?_
      show W l Z n m3 41 [(.val (.ref 0)), (.val (.ref 1)), (.val (.ref 2)), (.val (.long (((((((((((((0 : Int64) <<< ((1 : Int32) &&& 0x3f).toInt64) ||| ((XT.ushrL (Int64.ofNat t1.1) (3 - 1)) &&& 1)) <<< ((1 : Int32) &&& 0x3f).toInt64) ||| ((XT.ushrL (Int64.ofNat t2.1) (3 - 1)) &&& 1)) <<< ((1 : Int32) &&& 0x3f).toInt64) ||| ((XT.ushrL (Int64.ofNat t3.1) (3 - 1)) &&& 1)) <<< ((1 : Int32) &&& 0x3f).toInt64) ||| ((XT.ushrL (Int64.ofNat t3.1) ((3 - 1) + (-1))) &&& 1)) <<< ((1 : Int32) &&& 0x3f).toInt64) ||| ((XT.ushrL (Int64.ofNat t1.1) ((3 - 1) + (-1))) &&& 1)) <<< ((1 : Int32) &&& 0x3f).toInt64) ||| ((XT.ushrL (Int64.ofNat t2.1) ((3 - 1) + (-1))) &&& 1)))), .second, (.val (.int ((((((0 + 1) + 1) + 1) + 1) + 1) + 1))), (.val (.int (0))), (.val (.int (4 - 3))), (.val (.int (((3 - 1) + (-1)) + (-1)))), (.val (.int (0))), (.val (.int (4 - 3))), (.val (.int (0))), (.val (.long ((XT.ushrL (Int64.ofNat t2.1) ((3 - 1) + (-1))) &&& 1))), .second] [] [.inl ("com/example/reshelve/reshelve/service/sort/ZCurve", [(("com/example/reshelve/reshelve/service/sort/ZCurve", "dimensions", "I"), (.int (3))), (("com/example/reshelve/reshelve/service/sort/ZCurve", "bits", "I"), (.int (3))), (("com/example/reshelve/reshelve/service/sort/ZCurve", "words", "I"), (.int (1)))]), .inr (.long, [(.long (Int64.ofNat t1.1)), (.long (Int64.ofNat t2.1)), (.long (Int64.ofNat t3.1))]), .inr (.long, [(.long (0))])] _ _ _
      refine W.iload d3_41 rfl ?_
      refine W.aloadN d3_43 rfl rfl ?_
      refine W.getfield 0 d3_44 (hw _ (wd 10 rfl)) rfl rfl ?_
      refine W.icmp_ge d3_47 (fun h => False.elim (by revert h; decide)) (fun h47 => ?_)
      refine W.aloadN d3_50 rfl rfl ?_
      refine W.iload d3_51 rfl ?_
      refine W.laload (i := 1) d3_53 rfl ⟨by decide, by decide⟩ rfl ?_
      refine W.iload d3_54 rfl ?_
      refine W.lushr d3_56 ?_
      refine W.lconst 1 d3_57 rfl ?_
      refine W.land d3_58 ?_
      refine W.lstore d3_59 rfl ?_
      refine W.lloadN d3_61 rfl ?_
      refine W.iconst 1 d3_62 rfl ?_
      refine W.lshl d3_63 ?_
      refine W.lload d3_64 rfl ?_
      refine W.lor d3_66 ?_
      refine W.lstoreN d3_67 rfl ?_
      refine W.iinc 1 d3_68 rfl rfl ?_
      show WB _ l Z n m3 71 [(.val (.ref 0)), (.val (.ref 1)), (.val (.ref 2)), (.val (.long (((((((((((((((0 : Int64) <<< ((1 : Int32) &&& 0x3f).toInt64) ||| ((XT.ushrL (Int64.ofNat t1.1) (3 - 1)) &&& 1)) <<< ((1 : Int32) &&& 0x3f).toInt64) ||| ((XT.ushrL (Int64.ofNat t2.1) (3 - 1)) &&& 1)) <<< ((1 : Int32) &&& 0x3f).toInt64) ||| ((XT.ushrL (Int64.ofNat t3.1) (3 - 1)) &&& 1)) <<< ((1 : Int32) &&& 0x3f).toInt64) ||| ((XT.ushrL (Int64.ofNat t3.1) ((3 - 1) + (-1))) &&& 1)) <<< ((1 : Int32) &&& 0x3f).toInt64) ||| ((XT.ushrL (Int64.ofNat t1.1) ((3 - 1) + (-1))) &&& 1)) <<< ((1 : Int32) &&& 0x3f).toInt64) ||| ((XT.ushrL (Int64.ofNat t2.1) ((3 - 1) + (-1))) &&& 1)) <<< ((1 : Int32) &&& 0x3f).toInt64) ||| ((XT.ushrL (Int64.ofNat t2.1) (((3 - 1) + (-1)) + (-1))) &&& 1)))), .second, (.val (.int (((((((0 + 1) + 1) + 1) + 1) + 1) + 1) + 1))), (.val (.int (0))), (.val (.int (4 - 3))), (.val (.int (((3 - 1) + (-1)) + (-1)))), (.val (.int (0))), (.val (.int (4 - 3))), (.val (.int (0))), (.val (.long ((XT.ushrL (Int64.ofNat t2.1) (((3 - 1) + (-1)) + (-1))) &&& 1))), .second] [] [.inl ("com/example/reshelve/reshelve/service/sort/ZCurve", [(("com/example/reshelve/reshelve/service/sort/ZCurve", "dimensions", "I"), (.int (3))), (("com/example/reshelve/reshelve/service/sort/ZCurve", "bits", "I"), (.int (3))), (("com/example/reshelve/reshelve/service/sort/ZCurve", "words", "I"), (.int (1)))]), .inr (.long, [(.long (Int64.ofNat t1.1)), (.long (Int64.ofNat t2.1)), (.long (Int64.ofNat t3.1))]), .inr (.long, [(.long (0))])] _ _ _
      refine W.iload d3_71 rfl ?_
      refine W.bipush 64 d3_73 rfl ?_
      refine W.icmp_ne d3_75 (fun h75 => ?_) (fun h => False.elim (by revert h; decide))
      refine W.iload d3_89 rfl ?_
      refine W.lload d3_91 rfl ?_
      refine W.l2i d3_93 ?_
      refine W.iadd d3_94 ?_
      refine W.istore d3_95 rfl ?_
      refine W.iload d3_97 rfl ?_
      refine W.iconst 1 d3_99 rfl ?_
      refine W.iadd d3_100 ?_
      refine W.aloadN d3_101 rfl rfl ?_
      refine W.getfield 0 d3_102 (hw _ (wd 10 rfl)) rfl rfl ?_
      refine W.icmp_ne d3_105 (fun h105 => ?_) (fun h => False.elim (by revert h; decide))
      refine W.iload d3_112 rfl ?_
      refine W.iconst 1 d3_114 rfl ?_
      refine W.iadd d3_115 ?_
      refine W.istore d3_116 rfl ?_
      refine W.iinc 1 d3_118 rfl rfl ?_
      refine W.goto d3_121 ?_
      show W l Z n m3 41 [(.val (.ref 0)), (.val (.ref 1)), (.val (.ref 2)), (.val (.long (((((((((((((((0 : Int64) <<< ((1 : Int32) &&& 0x3f).toInt64) ||| ((XT.ushrL (Int64.ofNat t1.1) (3 - 1)) &&& 1)) <<< ((1 : Int32) &&& 0x3f).toInt64) ||| ((XT.ushrL (Int64.ofNat t2.1) (3 - 1)) &&& 1)) <<< ((1 : Int32) &&& 0x3f).toInt64) ||| ((XT.ushrL (Int64.ofNat t3.1) (3 - 1)) &&& 1)) <<< ((1 : Int32) &&& 0x3f).toInt64) ||| ((XT.ushrL (Int64.ofNat t3.1) ((3 - 1) + (-1))) &&& 1)) <<< ((1 : Int32) &&& 0x3f).toInt64) ||| ((XT.ushrL (Int64.ofNat t1.1) ((3 - 1) + (-1))) &&& 1)) <<< ((1 : Int32) &&& 0x3f).toInt64) ||| ((XT.ushrL (Int64.ofNat t2.1) ((3 - 1) + (-1))) &&& 1)) <<< ((1 : Int32) &&& 0x3f).toInt64) ||| ((XT.ushrL (Int64.ofNat t2.1) (((3 - 1) + (-1)) + (-1))) &&& 1)))), .second, (.val (.int (((((((0 + 1) + 1) + 1) + 1) + 1) + 1) + 1))), (.val (.int (0))), (.val (.int (4 - 3))), (.val (.int (((3 - 1) + (-1)) + (-1)))), (.val (.int (0 + (((XT.ushrL (Int64.ofNat t2.1) (((3 - 1) + (-1)) + (-1))) &&& 1).toInt32)))), (.val (.int ((4 - 3) + 1))), (.val (.int (0 + 1))), (.val (.long ((XT.ushrL (Int64.ofNat t2.1) (((3 - 1) + (-1)) + (-1))) &&& 1))), .second] [] [.inl ("com/example/reshelve/reshelve/service/sort/ZCurve", [(("com/example/reshelve/reshelve/service/sort/ZCurve", "dimensions", "I"), (.int (3))), (("com/example/reshelve/reshelve/service/sort/ZCurve", "bits", "I"), (.int (3))), (("com/example/reshelve/reshelve/service/sort/ZCurve", "words", "I"), (.int (1)))]), .inr (.long, [(.long (Int64.ofNat t1.1)), (.long (Int64.ofNat t2.1)), (.long (Int64.ofNat t3.1))]), .inr (.long, [(.long (0))])] _ _ _
      refine W.iload d3_41 rfl ?_
      refine W.aloadN d3_43 rfl rfl ?_
      refine W.getfield 0 d3_44 (hw _ (wd 10 rfl)) rfl rfl ?_
      refine W.icmp_ge d3_47 (fun h => False.elim (by revert h; decide)) (fun h47 => ?_)
      refine W.aloadN d3_50 rfl rfl ?_
      refine W.iload d3_51 rfl ?_
      refine W.laload (i := 2) d3_53 rfl ⟨by decide, by decide⟩ rfl ?_
      refine W.iload d3_54 rfl ?_
      refine W.lushr d3_56 ?_
      refine W.lconst 1 d3_57 rfl ?_
      refine W.land d3_58 ?_
      refine W.lstore d3_59 rfl ?_
      show WB _ l Z n m3 61 [(.val (.ref 0)), (.val (.ref 1)), (.val (.ref 2)), (.val (.long (((((((((((((((0 : Int64) <<< ((1 : Int32) &&& 0x3f).toInt64) ||| ((XT.ushrL (Int64.ofNat t1.1) (3 - 1)) &&& 1)) <<< ((1 : Int32) &&& 0x3f).toInt64) ||| ((XT.ushrL (Int64.ofNat t2.1) (3 - 1)) &&& 1)) <<< ((1 : Int32) &&& 0x3f).toInt64) ||| ((XT.ushrL (Int64.ofNat t3.1) (3 - 1)) &&& 1)) <<< ((1 : Int32) &&& 0x3f).toInt64) ||| ((XT.ushrL (Int64.ofNat t3.1) ((3 - 1) + (-1))) &&& 1)) <<< ((1 : Int32) &&& 0x3f).toInt64) ||| ((XT.ushrL (Int64.ofNat t1.1) ((3 - 1) + (-1))) &&& 1)) <<< ((1 : Int32) &&& 0x3f).toInt64) ||| ((XT.ushrL (Int64.ofNat t2.1) ((3 - 1) + (-1))) &&& 1)) <<< ((1 : Int32) &&& 0x3f).toInt64) ||| ((XT.ushrL (Int64.ofNat t2.1) (((3 - 1) + (-1)) + (-1))) &&& 1)))), .second, (.val (.int (((((((0 + 1) + 1) + 1) + 1) + 1) + 1) + 1))), (.val (.int (0))), (.val (.int (4 - 3))), (.val (.int (((3 - 1) + (-1)) + (-1)))), (.val (.int (0 + (((XT.ushrL (Int64.ofNat t2.1) (((3 - 1) + (-1)) + (-1))) &&& 1).toInt32)))), (.val (.int ((4 - 3) + 1))), (.val (.int (0 + 1))), (.val (.long ((XT.ushrL (Int64.ofNat t3.1) (((3 - 1) + (-1)) + (-1))) &&& 1))), .second] [] [.inl ("com/example/reshelve/reshelve/service/sort/ZCurve", [(("com/example/reshelve/reshelve/service/sort/ZCurve", "dimensions", "I"), (.int (3))), (("com/example/reshelve/reshelve/service/sort/ZCurve", "bits", "I"), (.int (3))), (("com/example/reshelve/reshelve/service/sort/ZCurve", "words", "I"), (.int (1)))]), .inr (.long, [(.long (Int64.ofNat t1.1)), (.long (Int64.ofNat t2.1)), (.long (Int64.ofNat t3.1))]), .inr (.long, [(.long (0))])] _ _ _
      refine W.lloadN d3_61 rfl ?_
      refine W.iconst 1 d3_62 rfl ?_
      refine W.lshl d3_63 ?_
      refine W.lload d3_64 rfl ?_
      refine W.lor d3_66 ?_
      refine W.lstoreN d3_67 rfl ?_
      refine W.iinc 1 d3_68 rfl rfl ?_
      refine W.iload d3_71 rfl ?_
      refine W.bipush 64 d3_73 rfl ?_
      refine W.icmp_ne d3_75 (fun h75 => ?_) (fun h => False.elim (by revert h; decide))
      refine W.iload d3_89 rfl ?_
      refine W.lload d3_91 rfl ?_
      refine W.l2i d3_93 ?_
      refine W.iadd d3_94 ?_
      refine W.istore d3_95 rfl ?_
      refine W.iload d3_97 rfl ?_
      refine W.iconst 1 d3_99 rfl ?_
      refine W.iadd d3_100 ?_
      refine W.aloadN d3_101 rfl rfl ?_
      refine W.getfield 0 d3_102 (hw _ (wd 10 rfl)) rfl rfl ?_
      refine W.icmp_ne d3_105 (fun h => False.elim (by revert h; decide)) (fun h105 => ?_)
      refine W.iconst 0 d3_108 rfl ?_
      refine W.goto d3_109 ?_
      refine W.istore d3_116 rfl ?_
      show WB _ l Z n m3 118 [(.val (.ref 0)), (.val (.ref 1)), (.val (.ref 2)), (.val (.long (((((((((((((((((0 : Int64) <<< ((1 : Int32) &&& 0x3f).toInt64) ||| ((XT.ushrL (Int64.ofNat t1.1) (3 - 1)) &&& 1)) <<< ((1 : Int32) &&& 0x3f).toInt64) ||| ((XT.ushrL (Int64.ofNat t2.1) (3 - 1)) &&& 1)) <<< ((1 : Int32) &&& 0x3f).toInt64) ||| ((XT.ushrL (Int64.ofNat t3.1) (3 - 1)) &&& 1)) <<< ((1 : Int32) &&& 0x3f).toInt64) ||| ((XT.ushrL (Int64.ofNat t3.1) ((3 - 1) + (-1))) &&& 1)) <<< ((1 : Int32) &&& 0x3f).toInt64) ||| ((XT.ushrL (Int64.ofNat t1.1) ((3 - 1) + (-1))) &&& 1)) <<< ((1 : Int32) &&& 0x3f).toInt64) ||| ((XT.ushrL (Int64.ofNat t2.1) ((3 - 1) + (-1))) &&& 1)) <<< ((1 : Int32) &&& 0x3f).toInt64) ||| ((XT.ushrL (Int64.ofNat t2.1) (((3 - 1) + (-1)) + (-1))) &&& 1)) <<< ((1 : Int32) &&& 0x3f).toInt64) ||| ((XT.ushrL (Int64.ofNat t3.1) (((3 - 1) + (-1)) + (-1))) &&& 1)))), .second, (.val (.int ((((((((0 + 1) + 1) + 1) + 1) + 1) + 1) + 1) + 1))), (.val (.int (0))), (.val (.int (4 - 3))), (.val (.int (((3 - 1) + (-1)) + (-1)))), (.val (.int ((0 + (((XT.ushrL (Int64.ofNat t2.1) (((3 - 1) + (-1)) + (-1))) &&& 1).toInt32)) + (((XT.ushrL (Int64.ofNat t3.1) (((3 - 1) + (-1)) + (-1))) &&& 1).toInt32)))), (.val (.int (0))), (.val (.int (0 + 1))), (.val (.long ((XT.ushrL (Int64.ofNat t3.1) (((3 - 1) + (-1)) + (-1))) &&& 1))), .second] [] [.inl ("com/example/reshelve/reshelve/service/sort/ZCurve", [(("com/example/reshelve/reshelve/service/sort/ZCurve", "dimensions", "I"), (.int (3))), (("com/example/reshelve/reshelve/service/sort/ZCurve", "bits", "I"), (.int (3))), (("com/example/reshelve/reshelve/service/sort/ZCurve", "words", "I"), (.int (1)))]), .inr (.long, [(.long (Int64.ofNat t1.1)), (.long (Int64.ofNat t2.1)), (.long (Int64.ofNat t3.1))]), .inr (.long, [(.long (0))])] _ _ _
      refine W.iinc 1 d3_118 rfl rfl ?_
      refine W.goto d3_121 ?_
      show W l Z n m3 41 [(.val (.ref 0)), (.val (.ref 1)), (.val (.ref 2)), (.val (.long (((((((((((((((((0 : Int64) <<< ((1 : Int32) &&& 0x3f).toInt64) ||| ((XT.ushrL (Int64.ofNat t1.1) (3 - 1)) &&& 1)) <<< ((1 : Int32) &&& 0x3f).toInt64) ||| ((XT.ushrL (Int64.ofNat t2.1) (3 - 1)) &&& 1)) <<< ((1 : Int32) &&& 0x3f).toInt64) ||| ((XT.ushrL (Int64.ofNat t3.1) (3 - 1)) &&& 1)) <<< ((1 : Int32) &&& 0x3f).toInt64) ||| ((XT.ushrL (Int64.ofNat t3.1) ((3 - 1) + (-1))) &&& 1)) <<< ((1 : Int32) &&& 0x3f).toInt64) ||| ((XT.ushrL (Int64.ofNat t1.1) ((3 - 1) + (-1))) &&& 1)) <<< ((1 : Int32) &&& 0x3f).toInt64) ||| ((XT.ushrL (Int64.ofNat t2.1) ((3 - 1) + (-1))) &&& 1)) <<< ((1 : Int32) &&& 0x3f).toInt64) ||| ((XT.ushrL (Int64.ofNat t2.1) (((3 - 1) + (-1)) + (-1))) &&& 1)) <<< ((1 : Int32) &&& 0x3f).toInt64) ||| ((XT.ushrL (Int64.ofNat t3.1) (((3 - 1) + (-1)) + (-1))) &&& 1)))), .second, (.val (.int ((((((((0 + 1) + 1) + 1) + 1) + 1) + 1) + 1) + 1))), (.val (.int (0))), (.val (.int (4 - 3))), (.val (.int (((3 - 1) + (-1)) + (-1)))), (.val (.int ((0 + (((XT.ushrL (Int64.ofNat t2.1) (((3 - 1) + (-1)) + (-1))) &&& 1).toInt32)) + (((XT.ushrL (Int64.ofNat t3.1) (((3 - 1) + (-1)) + (-1))) &&& 1).toInt32)))), (.val (.int (0))), (.val (.int ((0 + 1) + 1))), (.val (.long ((XT.ushrL (Int64.ofNat t3.1) (((3 - 1) + (-1)) + (-1))) &&& 1))), .second] [] [.inl ("com/example/reshelve/reshelve/service/sort/ZCurve", [(("com/example/reshelve/reshelve/service/sort/ZCurve", "dimensions", "I"), (.int (3))), (("com/example/reshelve/reshelve/service/sort/ZCurve", "bits", "I"), (.int (3))), (("com/example/reshelve/reshelve/service/sort/ZCurve", "words", "I"), (.int (1)))]), .inr (.long, [(.long (Int64.ofNat t1.1)), (.long (Int64.ofNat t2.1)), (.long (Int64.ofNat t3.1))]), .inr (.long, [(.long (0))])] _ _ _
      refine W.iload d3_41 rfl ?_
      refine W.aloadN d3_43 rfl rfl ?_
      refine W.getfield 0 d3_44 (hw _ (wd 10 rfl)) rfl rfl ?_
      refine W.icmp_ge d3_47 (fun h => False.elim (by revert h; decide)) (fun h47 => ?_)
      refine W.aloadN d3_50 rfl rfl ?_
      refine W.iload d3_51 rfl ?_
      refine W.laload (i := 0) d3_53 rfl ⟨by decide, by decide⟩ rfl ?_
      refine W.iload d3_54 rfl ?_
      refine W.lushr d3_56 ?_
      refine W.lconst 1 d3_57 rfl ?_
      refine W.land d3_58 ?_
      refine W.lstore d3_59 rfl ?_
      refine W.lloadN d3_61 rfl ?_
      refine W.iconst 1 d3_62 rfl ?_
      refine W.lshl d3_63 ?_
      refine W.lload d3_64 rfl ?_
      refine W.lor d3_66 ?_
      refine W.lstoreN d3_67 rfl ?_
      refine W.iinc 1 d3_68 rfl rfl ?_
      show WB _ l Z n m3 71 [(.val (.ref 0)), (.val (.ref 1)), (.val (.ref 2)), (.val (.long (((((((((((((((((((0 : Int64) <<< ((1 : Int32) &&& 0x3f).toInt64) ||| ((XT.ushrL (Int64.ofNat t1.1) (3 - 1)) &&& 1)) <<< ((1 : Int32) &&& 0x3f).toInt64) ||| ((XT.ushrL (Int64.ofNat t2.1) (3 - 1)) &&& 1)) <<< ((1 : Int32) &&& 0x3f).toInt64) ||| ((XT.ushrL (Int64.ofNat t3.1) (3 - 1)) &&& 1)) <<< ((1 : Int32) &&& 0x3f).toInt64) ||| ((XT.ushrL (Int64.ofNat t3.1) ((3 - 1) + (-1))) &&& 1)) <<< ((1 : Int32) &&& 0x3f).toInt64) ||| ((XT.ushrL (Int64.ofNat t1.1) ((3 - 1) + (-1))) &&& 1)) <<< ((1 : Int32) &&& 0x3f).toInt64) ||| ((XT.ushrL (Int64.ofNat t2.1) ((3 - 1) + (-1))) &&& 1)) <<< ((1 : Int32) &&& 0x3f).toInt64) ||| ((XT.ushrL (Int64.ofNat t2.1) (((3 - 1) + (-1)) + (-1))) &&& 1)) <<< ((1 : Int32) &&& 0x3f).toInt64) ||| ((XT.ushrL (Int64.ofNat t3.1) (((3 - 1) + (-1)) + (-1))) &&& 1)) <<< ((1 : Int32) &&& 0x3f).toInt64) ||| ((XT.ushrL (Int64.ofNat t1.1) (((3 - 1) + (-1)) + (-1))) &&& 1)))), .second, (.val (.int (((((((((0 + 1) + 1) + 1) + 1) + 1) + 1) + 1) + 1) + 1))), (.val (.int (0))), (.val (.int (4 - 3))), (.val (.int (((3 - 1) + (-1)) + (-1)))), (.val (.int ((0 + (((XT.ushrL (Int64.ofNat t2.1) (((3 - 1) + (-1)) + (-1))) &&& 1).toInt32)) + (((XT.ushrL (Int64.ofNat t3.1) (((3 - 1) + (-1)) + (-1))) &&& 1).toInt32)))), (.val (.int (0))), (.val (.int ((0 + 1) + 1))), (.val (.long ((XT.ushrL (Int64.ofNat t1.1) (((3 - 1) + (-1)) + (-1))) &&& 1))), .second] [] [.inl ("com/example/reshelve/reshelve/service/sort/ZCurve", [(("com/example/reshelve/reshelve/service/sort/ZCurve", "dimensions", "I"), (.int (3))), (("com/example/reshelve/reshelve/service/sort/ZCurve", "bits", "I"), (.int (3))), (("com/example/reshelve/reshelve/service/sort/ZCurve", "words", "I"), (.int (1)))]), .inr (.long, [(.long (Int64.ofNat t1.1)), (.long (Int64.ofNat t2.1)), (.long (Int64.ofNat t3.1))]), .inr (.long, [(.long (0))])] _ _ _
      refine W.iload d3_71 rfl ?_
      refine W.bipush 64 d3_73 rfl ?_
      refine W.icmp_ne d3_75 (fun h75 => ?_) (fun h => False.elim (by revert h; decide))
      refine W.iload d3_89 rfl ?_
      refine W.lload d3_91 rfl ?_
      refine W.l2i d3_93 ?_
      refine W.iadd d3_94 ?_
      refine W.istore d3_95 rfl ?_
      refine W.iload d3_97 rfl ?_
      refine W.iconst 1 d3_99 rfl ?_
      refine W.iadd d3_100 ?_
      refine W.aloadN d3_101 rfl rfl ?_
      refine W.getfield 0 d3_102 (hw _ (wd 10 rfl)) rfl rfl ?_
      refine W.icmp_ne d3_105 (fun h105 => ?_) (fun h => False.elim (by revert h; decide))
      refine W.iload d3_112 rfl ?_
      refine W.iconst 1 d3_114 rfl ?_
      refine W.iadd d3_115 ?_
      refine W.istore d3_116 rfl ?_
      refine W.iinc 1 d3_118 rfl rfl ?_
      refine W.goto d3_121 ?_
      show W l Z n m3 41 [(.val (.ref 0)), (.val (.ref 1)), (.val (.ref 2)), (.val (.long (((((((((((((((((((0 : Int64) <<< ((1 : Int32) &&& 0x3f).toInt64) ||| ((XT.ushrL (Int64.ofNat t1.1) (3 - 1)) &&& 1)) <<< ((1 : Int32) &&& 0x3f).toInt64) ||| ((XT.ushrL (Int64.ofNat t2.1) (3 - 1)) &&& 1)) <<< ((1 : Int32) &&& 0x3f).toInt64) ||| ((XT.ushrL (Int64.ofNat t3.1) (3 - 1)) &&& 1)) <<< ((1 : Int32) &&& 0x3f).toInt64) ||| ((XT.ushrL (Int64.ofNat t3.1) ((3 - 1) + (-1))) &&& 1)) <<< ((1 : Int32) &&& 0x3f).toInt64) ||| ((XT.ushrL (Int64.ofNat t1.1) ((3 - 1) + (-1))) &&& 1)) <<< ((1 : Int32) &&& 0x3f).toInt64) ||| ((XT.ushrL (Int64.ofNat t2.1) ((3 - 1) + (-1))) &&& 1)) <<< ((1 : Int32) &&& 0x3f).toInt64) ||| ((XT.ushrL (Int64.ofNat t2.1) (((3 - 1) + (-1)) + (-1))) &&& 1)) <<< ((1 : Int32) &&& 0x3f).toInt64) ||| ((XT.ushrL (Int64.ofNat t3.1) (((3 - 1) + (-1)) + (-1))) &&& 1)) <<< ((1 : Int32) &&& 0x3f).toInt64) ||| ((XT.ushrL (Int64.ofNat t1.1) (((3 - 1) + (-1)) + (-1))) &&& 1)))), .second, (.val (.int (((((((((0 + 1) + 1) + 1) + 1) + 1) + 1) + 1) + 1) + 1))), (.val (.int (0))), (.val (.int (4 - 3))), (.val (.int (((3 - 1) + (-1)) + (-1)))), (.val (.int (((0 + (((XT.ushrL (Int64.ofNat t2.1) (((3 - 1) + (-1)) + (-1))) &&& 1).toInt32)) + (((XT.ushrL (Int64.ofNat t3.1) (((3 - 1) + (-1)) + (-1))) &&& 1).toInt32)) + (((XT.ushrL (Int64.ofNat t1.1) (((3 - 1) + (-1)) + (-1))) &&& 1).toInt32)))), (.val (.int (0 + 1))), (.val (.int (((0 + 1) + 1) + 1))), (.val (.long ((XT.ushrL (Int64.ofNat t1.1) (((3 - 1) + (-1)) + (-1))) &&& 1))), .second] [] [.inl ("com/example/reshelve/reshelve/service/sort/ZCurve", [(("com/example/reshelve/reshelve/service/sort/ZCurve", "dimensions", "I"), (.int (3))), (("com/example/reshelve/reshelve/service/sort/ZCurve", "bits", "I"), (.int (3))), (("com/example/reshelve/reshelve/service/sort/ZCurve", "words", "I"), (.int (1)))]), .inr (.long, [(.long (Int64.ofNat t1.1)), (.long (Int64.ofNat t2.1)), (.long (Int64.ofNat t3.1))]), .inr (.long, [(.long (0))])] _ _ _
      refine W.iload d3_41 rfl ?_
      refine W.aloadN d3_43 rfl rfl ?_
      refine W.getfield 0 d3_44 (hw _ (wd 10 rfl)) rfl rfl ?_
      refine W.icmp_ge d3_47 (fun h47 => ?_) (fun h => False.elim (by revert h; decide))
      refine W.iload d3_124 rfl ?_
      refine W.iload d3_126 rfl ?_
      refine W.iadd d3_128 ?_
      refine W.istore d3_129 rfl ?_
      show WB _ l Z n m3 131 [(.val (.ref 0)), (.val (.ref 1)), (.val (.ref 2)), (.val (.long (((((((((((((((((((0 : Int64) <<< ((1 : Int32) &&& 0x3f).toInt64) ||| ((XT.ushrL (Int64.ofNat t1.1) (3 - 1)) &&& 1)) <<< ((1 : Int32) &&& 0x3f).toInt64) ||| ((XT.ushrL (Int64.ofNat t2.1) (3 - 1)) &&& 1)) <<< ((1 : Int32) &&& 0x3f).toInt64) ||| ((XT.ushrL (Int64.ofNat t3.1) (3 - 1)) &&& 1)) <<< ((1 : Int32) &&& 0x3f).toInt64) ||| ((XT.ushrL (Int64.ofNat t3.1) ((3 - 1) + (-1))) &&& 1)) <<< ((1 : Int32) &&& 0x3f).toInt64) ||| ((XT.ushrL (Int64.ofNat t1.1) ((3 - 1) + (-1))) &&& 1)) <<< ((1 : Int32) &&& 0x3f).toInt64) ||| ((XT.ushrL (Int64.ofNat t2.1) ((3 - 1) + (-1))) &&& 1)) <<< ((1 : Int32) &&& 0x3f).toInt64) ||| ((XT.ushrL (Int64.ofNat t2.1) (((3 - 1) + (-1)) + (-1))) &&& 1)) <<< ((1 : Int32) &&& 0x3f).toInt64) ||| ((XT.ushrL (Int64.ofNat t3.1) (((3 - 1) + (-1)) + (-1))) &&& 1)) <<< ((1 : Int32) &&& 0x3f).toInt64) ||| ((XT.ushrL (Int64.ofNat t1.1) (((3 - 1) + (-1)) + (-1))) &&& 1)))), .second, (.val (.int (((((((((0 + 1) + 1) + 1) + 1) + 1) + 1) + 1) + 1) + 1))), (.val (.int (0))), (.val (.int ((4 - 3) + (((0 + (((XT.ushrL (Int64.ofNat t2.1) (((3 - 1) + (-1)) + (-1))) &&& 1).toInt32)) + (((XT.ushrL (Int64.ofNat t3.1) (((3 - 1) + (-1)) + (-1))) &&& 1).toInt32)) + (((XT.ushrL (Int64.ofNat t1.1) (((3 - 1) + (-1)) + (-1))) &&& 1).toInt32))))), (.val (.int (((3 - 1) + (-1)) + (-1)))), (.val (.int (((0 + (((XT.ushrL (Int64.ofNat t2.1) (((3 - 1) + (-1)) + (-1))) &&& 1).toInt32)) + (((XT.ushrL (Int64.ofNat t3.1) (((3 - 1) + (-1)) + (-1))) &&& 1).toInt32)) + (((XT.ushrL (Int64.ofNat t1.1) (((3 - 1) + (-1)) + (-1))) &&& 1).toInt32)))), (.val (.int (0 + 1))), (.val (.int (((0 + 1) + 1) + 1))), (.val (.long ((XT.ushrL (Int64.ofNat t1.1) (((3 - 1) + (-1)) + (-1))) &&& 1))), .second] [] [.inl ("com/example/reshelve/reshelve/service/sort/ZCurve", [(("com/example/reshelve/reshelve/service/sort/ZCurve", "dimensions", "I"), (.int (3))), (("com/example/reshelve/reshelve/service/sort/ZCurve", "bits", "I"), (.int (3))), (("com/example/reshelve/reshelve/service/sort/ZCurve", "words", "I"), (.int (1)))]), .inr (.long, [(.long (Int64.ofNat t1.1)), (.long (Int64.ofNat t2.1)), (.long (Int64.ofNat t3.1))]), .inr (.long, [(.long (0))])] _ _ _
      refine W.iload d3_131 rfl ?_
      refine W.aloadN d3_133 rfl rfl ?_
      refine W.getfield 0 d3_134 (hw _ (wd 10 rfl)) rfl rfl ?_
      refine W.icmp_lt d3_137 (fun h137 => ?_) (fun h137 => ?_)
      · refine W.iinc (-1) d3_149 rfl rfl ?_
        refine W.goto d3_152 ?_
        refine W.iload d3_26 rfl ?_
        refine W.if_lt d3_28 (fun h28 => ?_) (fun h => False.elim (by revert h; decide))
        refine W.iload d3_155 rfl ?_
        refine W.if_le d3_157 (fun h => False.elim (by revert h; decide)) (fun h157 => ?_)
        refine W.aloadN d3_160 rfl rfl ?_
        refine W.iload d3_161 rfl ?_
        refine W.lloadN d3_163 rfl ?_
        refine W.bipush 64 d3_164 rfl ?_
        refine W.iload d3_166 rfl ?_
        refine W.isub d3_168 ?_
        refine W.lshl d3_169 ?_
        refine W.lastore (i := 0) d3_170 rfl ⟨by decide, by decide⟩ (by simp) ?_
        refine W.aloadN d3_171 rfl rfl ?_
        exact W.areturn d3_172 rfl rfl rfl (by decide) (by decide) (⟨rfl, by rw [own_k14 t1 t2 t3 q0 q1] <;> rfl⟩)
      · refine W.iload d3_140 rfl ?_
        refine W.aloadN d3_142 rfl rfl ?_
        refine W.getfield 0 d3_143 (hw _ (wd 10 rfl)) rfl rfl ?_
        refine W.isub d3_146 ?_
        refine W.istore d3_147 rfl ?_
        refine W.iinc (-1) d3_149 rfl rfl ?_
        refine W.goto d3_152 ?_
        refine W.iload d3_26 rfl ?_
        refine W.if_lt d3_28 (fun h28 => ?_) (fun h => False.elim (by revert h; decide))
        refine W.iload d3_155 rfl ?_
        refine W.if_le d3_157 (fun h => False.elim (by revert h; decide)) (fun h157 => ?_)
        refine W.aloadN d3_160 rfl rfl ?_
        refine W.iload d3_161 rfl ?_
        refine W.lloadN d3_163 rfl ?_
        refine W.bipush 64 d3_164 rfl ?_
        refine W.iload d3_166 rfl ?_
        refine W.isub d3_168 ?_
        refine W.lshl d3_169 ?_
        refine W.lastore (i := 0) d3_170 rfl ⟨by decide, by decide⟩ (by simp) ?_
        refine W.aloadN d3_171 rfl rfl ?_
        exact W.areturn d3_172 rfl rfl rfl (by decide) (by decide) (⟨rfl, by rw [own_k14 t1 t2 t3 q0 q1] <;> rfl⟩)
    · rw [q1]
      refine W.istore d3_129 rfl ?_
      show WB _ l Z n m3 131 [(.val (.ref 0)), (.val (.ref 1)), (.val (.ref 2)), (.val (.long (((((((((((((0 : Int64) <<< ((1 : Int32) &&& 0x3f).toInt64) ||| ((XT.ushrL (Int64.ofNat t1.1) (3 - 1)) &&& 1)) <<< ((1 : Int32) &&& 0x3f).toInt64) ||| ((XT.ushrL (Int64.ofNat t2.1) (3 - 1)) &&& 1)) <<< ((1 : Int32) &&& 0x3f).toInt64) ||| ((XT.ushrL (Int64.ofNat t3.1) (3 - 1)) &&& 1)) <<< ((1 : Int32) &&& 0x3f).toInt64) ||| ((XT.ushrL (Int64.ofNat t3.1) ((3 - 1) + (-1))) &&& 1)) <<< ((1 : Int32) &&& 0x3f).toInt64) ||| ((XT.ushrL (Int64.ofNat t1.1) ((3 - 1) + (-1))) &&& 1)) <<< ((1 : Int32) &&& 0x3f).toInt64) ||| ((XT.ushrL (Int64.ofNat t2.1) ((3 - 1) + (-1))) &&& 1)))), .second, (.val (.int ((((((0 + 1) + 1) + 1) + 1) + 1) + 1))), (.val (.int (0))), (.val (.int (5))), (.val (.int ((3 - 1) + (-1)))), (.val (.int (((0 + (((XT.ushrL (Int64.ofNat t3.1) ((3 - 1) + (-1))) &&& 1).toInt32)) + (((XT.ushrL (Int64.ofNat t1.1) ((3 - 1) + (-1))) &&& 1).toInt32)) + (((XT.ushrL (Int64.ofNat t2.1) ((3 - 1) + (-1))) &&& 1).toInt32)))), (.val (.int ((0 + 1) + 1))), (.val (.int (((0 + 1) + 1) + 1))), (.val (.long ((XT.ushrL (Int64.ofNat t2.1) ((3 - 1) + (-1))) &&& 1))), .second] [] [.inl ("com/example/reshelve/reshelve/service/sort/ZCurve", [(("com/example/reshelve/reshelve/service/sort/ZCurve", "dimensions", "I"), (.int (3))), (("com/example/reshelve/reshelve/service/sort/ZCurve", "bits", "I"), (.int (3))), (("com/example/reshelve/reshelve/service/sort/ZCurve", "words", "I"), (.int (1)))]), .inr (.long, [(.long (Int64.ofNat t1.1)), (.long (Int64.ofNat t2.1)), (.long (Int64.ofNat t3.1))]), .inr (.long, [(.long (0))])] _ _ _
      refine W.iload d3_131 rfl ?_
      refine W.aloadN d3_133 rfl rfl ?_
      refine W.getfield 0 d3_134 (hw _ (wd 10 rfl)) rfl rfl ?_
      refine W.icmp_lt d3_137 (fun h => False.elim (by revert h; decide)) (fun h137 => ?_)
      refine W.iload d3_140 rfl ?_
      refine W.aloadN d3_142 rfl rfl ?_
      refine W.getfield 0 d3_143 (hw _ (wd 10 rfl)) rfl rfl ?_
      refine W.isub d3_146 ?_
      refine W.istore d3_147 rfl ?_
      refine W.iinc (-1) d3_149 rfl rfl ?_
      refine W.goto d3_152 ?_
      refine W.iload d3_26 rfl ?_
      refine W.if_lt d3_28 (fun h => False.elim (by revert h; decide)) (fun h28 => ?_)
      refine W.iconst 0 d3_31 rfl ?_
      refine W.istore d3_32 rfl ?_
      refine W.iload d3_34 rfl ?_
      refine W.istore d3_36 rfl ?_
      show WB _ l Z n m3 38 [(.val (.ref 0)), (.val (.ref 1)), (.val (.ref 2)), (.val (.long (((((((((((((0 : Int64) <<< ((1 : Int32) &&& 0x3f).toInt64) ||| ((XT.ushrL (Int64.ofNat t1.1) (3 - 1)) &&& 1)) <<< ((1 : Int32) &&& 0x3f).toInt64) ||| ((XT.ushrL (Int64.ofNat t2.1) (3 - 1)) &&& 1)) <<< ((1 : Int32) &&& 0x3f).toInt64) ||| ((XT.ushrL (Int64.ofNat t3.1) (3 - 1)) &&& 1)) <<< ((1 : Int32) &&& 0x3f).toInt64) ||| ((XT.ushrL (Int64.ofNat t3.1) ((3 - 1) + (-1))) &&& 1)) <<< ((1 : Int32) &&& 0x3f).toInt64) ||| ((XT.ushrL (Int64.ofNat t1.1) ((3 - 1) + (-1))) &&& 1)) <<< ((1 : Int32) &&& 0x3f).toInt64) ||| ((XT.ushrL (Int64.ofNat t2.1) ((3 - 1) + (-1))) &&& 1)))), .second, (.val (.int ((((((0 + 1) + 1) + 1) + 1) + 1) + 1))), (.val (.int (0))), (.val (.int (5 - 3))), (.val (.int (((3 - 1) + (-1)) + (-1)))), (.val (.int (0))), (.val (.int (5 - 3))), (.val (.int (((0 + 1) + 1) + 1))), (.val (.long ((XT.ushrL (Int64.ofNat t2.1) ((3 - 1) + (-1))) &&& 1))), .second] [] [.inl ("com/example/reshelve/reshelve/service/sort/ZCurve", [(("com/example/reshelve/reshelve/service/sort/ZCurve", "dimensions", "I"), (.int (3))), (("com/example/reshelve/reshelve/service/sort/ZCurve", "bits", "I"), (.int (3))), (("com/example/reshelve/reshelve/service/sort/ZCurve", "words", "I"), (.int (1)))]), .inr (.long, [(.long (Int64.ofNat t1.1)), (.long (Int64.ofNat t2.1)), (.long (Int64.ofNat t3.1))]), .inr (.long, [(.long (0))])] _ _ _
      refine W.iconst 0 d3_38 rfl ?_
      refine W.istore d3_39 rfl ?_
      show W l Z n m3 41 [(.val (.ref 0)), (.val (.ref 1)), (.val (.ref 2)), (.val (.long (((((((((((((0 : Int64) <<< ((1 : Int32) &&& 0x3f).toInt64) ||| ((XT.ushrL (Int64.ofNat t1.1) (3 - 1)) &&& 1)) <<< ((1 : Int32) &&& 0x3f).toInt64) ||| ((XT.ushrL (Int64.ofNat t2.1) (3 - 1)) &&& 1)) <<< ((1 : Int32) &&& 0x3f).toInt64) ||| ((XT.ushrL (Int64.ofNat t3.1) (3 - 1)) &&& 1)) <<< ((1 : Int32) &&& 0x3f).toInt64) ||| ((XT.ushrL (Int64.ofNat t3.1) ((3 - 1) + (-1))) &&& 1)) <<< ((1 : Int32) &&& 0x3f).toInt64) ||| ((XT.ushrL (Int64.ofNat t1.1) ((3 - 1) + (-1))) &&& 1)) <<< ((1 : Int32) &&& 0x3f).toInt64) ||| ((XT.ushrL (Int64.ofNat t2.1) ((3 - 1) + (-1))) &&& 1)))), .second, (.val (.int ((((((0 + 1) + 1) + 1) + 1) + 1) + 1))), (.val (.int (0))), (.val (.int (5 - 3))), (.val (.int (((3 - 1) + (-1)) + (-1)))), (.val (.int (0))), (.val (.int (5 - 3))), (.val (.int (0))), (.val (.long ((XT.ushrL (Int64.ofNat t2.1) ((3 - 1) + (-1))) &&& 1))), .second] [] [.inl ("com/example/reshelve/reshelve/service/sort/ZCurve", [(("com/example/reshelve/reshelve/service/sort/ZCurve", "dimensions", "I"), (.int (3))), (("com/example/reshelve/reshelve/service/sort/ZCurve", "bits", "I"), (.int (3))), (("com/example/reshelve/reshelve/service/sort/ZCurve", "words", "I"), (.int (1)))]), .inr (.long, [(.long (Int64.ofNat t1.1)), (.long (Int64.ofNat t2.1)), (.long (Int64.ofNat t3.1))]), .inr (.long, [(.long (0))])] _ _ _
      refine W.iload d3_41 rfl ?_
      refine W.aloadN d3_43 rfl rfl ?_
      refine W.getfield 0 d3_44 (hw _ (wd 10 rfl)) rfl rfl ?_
      refine W.icmp_ge d3_47 (fun h => False.elim (by revert h; decide)) (fun h47 => ?_)
      refine W.aloadN d3_50 rfl rfl ?_
      refine W.iload d3_51 rfl ?_
      refine W.laload (i := 2) d3_53 rfl ⟨by decide, by decide⟩ rfl ?_
      refine W.iload d3_54 rfl ?_
      refine W.lushr d3_56 ?_
      refine W.lconst 1 d3_57 rfl ?_
      refine W.land d3_58 ?_
      refine W.lstore d3_59 rfl ?_
      refine W.lloadN d3_61 rfl ?_
      refine W.iconst 1 d3_62 rfl ?_
      refine W.lshl d3_63 ?_
      refine W.lload d3_64 rfl ?_
      refine W.lor d3_66 ?_
      refine W.lstoreN d3_67 rfl ?_
      refine W.iinc 1 d3_68 rfl rfl ?_
      show WB _ l Z n m3 71 [(.val (.ref 0)), (.val (.ref 1)), (.val (.ref 2)), (.val (.long (((((((((((((((0 : Int64) <<< ((1 : Int32) &&& 0x3f).toInt64) ||| ((XT.ushrL (Int64.ofNat t1.1) (3 - 1)) &&& 1)) <<< ((1 : Int32) &&& 0x3f).toInt64) ||| ((XT.ushrL (Int64.ofNat t2.1) (3 - 1)) &&& 1)) <<< ((1 : Int32) &&& 0x3f).toInt64) ||| ((XT.ushrL (Int64.ofNat t3.1) (3 - 1)) &&& 1)) <<< ((1 : Int32) &&& 0x3f).toInt64) ||| ((XT.ushrL (Int64.ofNat t3.1) ((3 - 1) + (-1))) &&& 1)) <<< ((1 : Int32) &&& 0x3f).toInt64) ||| ((XT.ushrL (Int64.ofNat t1.1) ((3 - 1) + (-1))) &&& 1)) <<< ((1 : Int32) &&& 0x3f).toInt64) ||| ((XT.ushrL (Int64.ofNat t2.1) ((3 - 1) + (-1))) &&& 1)) <<< ((1 : Int32) &&& 0x3f).toInt64) ||| ((XT.ushrL (Int64.ofNat t3.1) (((3 - 1) + (-1)) + (-1))) &&& 1)))), .second, (.val (.int (((((((0 + 1) + 1) + 1) + 1) + 1) + 1) + 1))), (.val (.int (0))), (.val (.int (5 - 3))), (.val (.int (((3 - 1) + (-1)) + (-1)))), (.val (.int (0))), (.val (.int (5 - 3))), (.val (.int (0))), (.val (.long ((XT.ushrL (Int64.ofNat t3.1) (((3 - 1) + (-1)) + (-1))) &&& 1))), .second] [] [.inl ("com/example/reshelve/reshelve/service/sort/ZCurve", [(("com/example/reshelve/reshelve/service/sort/ZCurve", "dimensions", "I"), (.int (3))), (("com/example/reshelve/reshelve/service/sort/ZCurve", "bits", "I"), (.int (3))), (("com/example/reshelve/reshelve/service/sort/ZCurve", "words", "I"), (.int (1)))]), .inr (.long, [(.long (Int64.ofNat t1.1)), (.long (Int64.ofNat t2.1)), (.long (Int64.ofNat t3.1))]), .inr (.long, [(.long (0))])] _ _ _
      refine W.iload d3_71 rfl ?_
      refine W.bipush 64 d3_73 rfl ?_
      refine W.icmp_ne d3_75 (fun h75 => ?_) (fun h => False.elim (by revert h; decide))
      refine W.iload d3_89 rfl ?_
      refine W.lload d3_91 rfl ?_
      refine W.l2i d3_93 ?_
      refine W.iadd d3_94 ?_
      refine W.istore d3_95 rfl ?_
      refine W.iload d3_97 rfl ?_
      refine W.iconst 1 d3_99 rfl ?_
      refine W.iadd d3_100 ?_
      refine W.aloadN d3_101 rfl rfl ?_
      refine W.getfield 0 d3_102 (hw _ (wd 10 rfl)) rfl rfl ?_
      refine W.icmp_ne d3_105 (fun h => False.elim (by revert h; decide)) (fun h105 => ?_)
      refine W.iconst 0 d3_108 rfl ?_
      refine W.goto d3_109 ?_
      refine W.istore d3_116 rfl ?_
      refine W.iinc 1 d3_118 rfl rfl ?_
      refine W.goto d3_121 ?_
      show W l Z n m3 41 [(.val (.ref 0)), (.val (.ref 1)), (.val (.ref 2)), (.val (.long (((((((((((((((0 : Int64) <<< ((1 : Int32) &&& 0x3f).toInt64) ||| ((XT.ushrL (Int64.ofNat t1.1) (3 - 1)) &&& 1)) <<< ((1 : Int32) &&& 0x3f).toInt64) ||| ((XT.ushrL (Int64.ofNat t2.1) (3 - 1)) &&& 1)) <<< ((1 : Int32) &&& 0x3f).toInt64) ||| ((XT.ushrL (Int64.ofNat t3.1) (3 - 1)) &&& 1)) <<< ((1 : Int32) &&& 0x3f).toInt64) ||| ((XT.ushrL (Int64.ofNat t3.1) ((3 - 1) + (-1))) &&& 1)) <<< ((1 : Int32) &&& 0x3f).toInt64) ||| ((XT.ushrL (Int64.ofNat t1.1) ((3 - 1) + (-1))) &&& 1)) <<< ((1 : Int32) &&& 0x3f).toInt64) ||| ((XT.ushrL (Int64.ofNat t2.1) ((3 - 1) + (-1))) &&& 1)) <<< ((1 : Int32) &&& 0x3f).toInt64) ||| ((XT.ushrL (Int64.ofNat t3.1) (((3 - 1) + (-1)) + (-1))) &&& 1)))), .second, (.val (.int (((((((0 + 1) + 1) + 1) + 1) + 1) + 1) + 1))), (.val (.int (0))), (.val (.int (5 - 3))), (.val (.int (((3 - 1) + (-1)) + (-1)))), (.val (.int (0 + (((XT.ushrL (Int64.ofNat t3.1) (((3 - 1) + (-1)) + (-1))) &&& 1).toInt32)))), (.val (.int (0))), (.val (.int (0 + 1))), (.val (.long ((XT.ushrL (Int64.ofNat t3.1) (((3 - 1) + (-1)) + (-1))) &&& 1))), .second] [] [.inl ("com/example/reshelve/reshelve/service/sort/ZCurve", [(("com/example/reshelve/reshelve/service/sort/ZCurve", "dimensions", "I"), (.int (3))), (("com/example/reshelve/reshelve/service/sort/ZCurve", "bits", "I"), (.int (3))), (("com/example/reshelve/reshelve/service/sort/ZCurve", "words", "I"), (.int (1)))]), .inr (.long, [(.long (Int64.ofNat t1.1)), (.long (Int64.ofNat t2.1)), (.long (Int64.ofNat t3.1))]), .inr (.long, [(.long (0))])] _ _ _
      refine W.iload d3_41 rfl ?_
      refine W.aloadN d3_43 rfl rfl ?_
      refine W.getfield 0 d3_44 (hw _ (wd 10 rfl)) rfl rfl ?_
      refine W.icmp_ge d3_47 (fun h => False.elim (by revert h; decide)) (fun h47 => ?_)
      refine W.aloadN d3_50 rfl rfl ?_
      refine W.iload d3_51 rfl ?_
      refine W.laload (i := 0) d3_53 rfl ⟨by decide, by decide⟩ rfl ?_
      refine W.iload d3_54 rfl ?_
      refine W.lushr d3_56 ?_
      refine W.lconst 1 d3_57 rfl ?_
      refine W.land d3_58 ?_
      refine W.lstore d3_59 rfl ?_
      show WB _ l Z n m3 61 [(.val (.ref 0)), (.val (.ref 1)), (.val (.ref 2)), (.val (.long (((((((((((((((0 : Int64) <<< ((1 : Int32) &&& 0x3f).toInt64) ||| ((XT.ushrL (Int64.ofNat t1.1) (3 - 1)) &&& 1)) <<< ((1 : Int32) &&& 0x3f).toInt64) ||| ((XT.ushrL (Int64.ofNat t2.1) (3 - 1)) &&& 1)) <<< ((1 : Int32) &&& 0x3f).toInt64) ||| ((XT.ushrL (Int64.ofNat t3.1) (3 - 1)) &&& 1)) <<< ((1 : Int32) &&& 0x3f).toInt64) ||| ((XT.ushrL (Int64.ofNat t3.1) ((3 - 1) + (-1))) &&& 1)) <<< ((1 : Int32) &&& 0x3f).toInt64) ||| ((XT.ushrL (Int64.ofNat t1.1) ((3 - 1) + (-1))) &&& 1)) <<< ((1 : Int32) &&& 0x3f).toInt64) ||| ((XT.ushrL (Int64.ofNat t2.1) ((3 - 1) + (-1))) &&& 1)) <<< ((1 : Int32) &&& 0x3f).toInt64) ||| ((XT.ushrL (Int64.ofNat t3.1) (((3 - 1) + (-1)) + (-1))) &&& 1)))), .second, (.val (.int (((((((0 + 1) + 1) + 1) + 1) + 1) + 1) + 1))), (.val (.int (0))), (.val (.int (5 - 3))), (.val (.int (((3 - 1) + (-1)) + (-1)))), (.val (.int (0 + (((XT.ushrL (Int64.ofNat t3.1) (((3 - 1) + (-1)) + (-1))) &&& 1).toInt32)))), (.val (.int (0))), (.val (.int (0 + 1))), (.val (.long ((XT.ushrL (Int64.ofNat t1.1) (((3 - 1) + (-1)) + (-1))) &&& 1))), .second] [] [.inl ("com/example/reshelve/reshelve/service/sort/ZCurve", [(("com/example/reshelve/reshelve/service/sort/ZCurve", "dimensions", "I"), (.int (3))), (("com/example/reshelve/reshelve/service/sort/ZCurve", "bits", "I"), (.int (3))), (("com/example/reshelve/reshelve/service/sort/ZCurve", "words", "I"), (.int (1)))]), .inr (.long, [(.long (Int64.ofNat t1.1)), (.long (Int64.ofNat t2.1)), (.long (Int64.ofNat t3.1))]), .inr (.long, [(.long (0))])] _ _ _
      refine W.lloadN d3_61 rfl ?_
      refine W.iconst 1 d3_62 rfl ?_
      refine W.lshl d3_63 ?_
      refine W.lload d3_64 rfl ?_
      refine W.lor d3_66 ?_
      refine W.lstoreN d3_67 rfl ?_
      refine W.iinc 1 d3_68 rfl rfl ?_
      refine W.iload d3_71 rfl ?_
      refine W.bipush 64 d3_73 rfl ?_
      refine W.icmp_ne d3_75 (fun h75 => ?_) (fun h => False.elim (by revert h; decide))
      refine W.iload d3_89 rfl ?_
      refine W.lload d3_91 rfl ?_
      refine W.l2i d3_93 ?_
      refine W.iadd d3_94 ?_
      refine W.istore d3_95 rfl ?_
      refine W.iload d3_97 rfl ?_
      refine W.iconst 1 d3_99 rfl ?_
      refine W.iadd d3_100 ?_
      refine W.aloadN d3_101 rfl rfl ?_
      refine W.getfield 0 d3_102 (hw _ (wd 10 rfl)) rfl rfl ?_
      refine W.icmp_ne d3_105 (fun h105 => ?_) (fun h => False.elim (by revert h; decide))
      refine W.iload d3_112 rfl ?_
      refine W.iconst 1 d3_114 rfl ?_
      refine W.iadd d3_115 ?_
      refine W.istore d3_116 rfl ?_
      show WB _ l Z n m3 118 [(.val (.ref 0)), (.val (.ref 1)), (.val (.ref 2)), (.val (.long (((((((((((((((((0 : Int64) <<< ((1 : Int32) &&& 0x3f).toInt64) ||| ((XT.ushrL (Int64.ofNat t1.1) (3 - 1)) &&& 1)) <<< ((1 : Int32) &&& 0x3f).toInt64) ||| ((XT.ushrL (Int64.ofNat t2.1) (3 - 1)) &&& 1)) <<< ((1 : Int32) &&& 0x3f).toInt64) ||| ((XT.ushrL (Int64.ofNat t3.1) (3 - 1)) &&& 1)) <<< ((1 : Int32) &&& 0x3f).toInt64) ||| ((XT.ushrL (Int64.ofNat t3.1) ((3 - 1) + (-1))) &&& 1)) <<< ((1 : Int32) &&& 0x3f).toInt64) ||| ((XT.ushrL (Int64.ofNat t1.1) ((3 - 1) + (-1))) &&& 1)) <<< ((1 : Int32) &&& 0x3f).toInt64) ||| ((XT.ushrL (Int64.ofNat t2.1) ((3 - 1) + (-1))) &&& 1)) <<< ((1 : Int32) &&& 0x3f).toInt64) ||| ((XT.ushrL (Int64.ofNat t3.1) (((3 - 1) + (-1)) + (-1))) &&& 1)) <<< ((1 : Int32) &&& 0x3f).toInt64) ||| ((XT.ushrL (Int64.ofNat t1.1) (((3 - 1) + (-1)) + (-1))) &&& 1)))), .second, (.val (.int ((((((((0 + 1) + 1) + 1) + 1) + 1) + 1) + 1) + 1))), (.val (.int (0))), (.val (.int (5 - 3))), (.val (.int (((3 - 1) + (-1)) + (-1)))), (.val (.int ((0 + (((XT.ushrL (Int64.ofNat t3.1) (((3 - 1) + (-1)) + (-1))) &&& 1).toInt32)) + (((XT.ushrL (Int64.ofNat t1.1) (((3 - 1) + (-1)) + (-1))) &&& 1).toInt32)))), (.val (.int (0 + 1))), (.val (.int (0 + 1))), (.val (.long ((XT.ushrL (Int64.ofNat t1.1) (((3 - 1) + (-1)) + (-1))) &&& 1))), .second] [] [.inl ("com/example/reshelve/reshelve/service/sort/ZCurve", [(("com/example/reshelve/reshelve/service/sort/ZCurve", "dimensions", "I"), (.int (3))), (("com/example/reshelve/reshelve/service/sort/ZCurve", "bits", "I"), (.int (3))), (("com/example/reshelve/reshelve/service/sort/ZCurve", "words", "I"), (.int (1)))]), .inr (.long, [(.long (Int64.ofNat t1.1)), (.long (Int64.ofNat t2.1)), (.long (Int64.ofNat t3.1))]), .inr (.long, [(.long (0))])] _ _ _
      refine W.iinc 1 d3_118 rfl rfl ?_
      refine W.goto d3_121 ?_
      show W l Z n m3 41 [(.val (.ref 0)), (.val (.ref 1)), (.val (.ref 2)), (.val (.long (((((((((((((((((0 : Int64) <<< ((1 : Int32) &&& 0x3f).toInt64) ||| ((XT.ushrL (Int64.ofNat t1.1) (3 - 1)) &&& 1)) <<< ((1 : Int32) &&& 0x3f).toInt64) ||| ((XT.ushrL (Int64.ofNat t2.1) (3 - 1)) &&& 1)) <<< ((1 : Int32) &&& 0x3f).toInt64) ||| ((XT.ushrL (Int64.ofNat t3.1) (3 - 1)) &&& 1)) <<< ((1 : Int32) &&& 0x3f).toInt64) ||| ((XT.ushrL (Int64.ofNat t3.1) ((3 - 1) + (-1))) &&& 1)) <<< ((1 : Int32) &&& 0x3f).toInt64) ||| ((XT.ushrL (Int64.ofNat t1.1) ((3 - 1) + (-1))) &&& 1)) <<< ((1 : Int32) &&& 0x3f).toInt64) ||| ((XT.ushrL (Int64.ofNat t2.1) ((3 - 1) + (-1))) &&& 1)) <<< ((1 : Int32) &&& 0x3f).toInt64) ||| ((XT.ushrL (Int64.ofNat t3.1) (((3 - 1) + (-1)) + (-1))) &&& 1)) <<< ((1 : Int32) &&& 0x3f).toInt64) ||| ((XT.ushrL (Int64.ofNat t1.1) (((3 - 1) + (-1)) + (-1))) &&& 1)))), .second, (.val (.int ((((((((0 + 1) + 1) + 1) + 1) + 1) + 1) + 1) + 1))), (.val (.int (0))), (.val (.int (5 - 3))), (.val (.int (((3 - 1) + (-1)) + (-1)))), (.val (.int ((0 + (((XT.ushrL (Int64.ofNat t3.1) (((3 - 1) + (-1)) + (-1))) &&& 1).toInt32)) + (((XT.ushrL (Int64.ofNat t1.1) (((3 - 1) + (-1)) + (-1))) &&& 1).toInt32)))), (.val (.int (0 + 1))), (.val (.int ((0 + 1) + 1))), (.val (.long ((XT.ushrL (Int64.ofNat t1.1) (((3 - 1) + (-1)) + (-1))) &&& 1))), .second] [] [.inl ("com/example/reshelve/reshelve/service/sort/ZCurve", [(("com/example/reshelve/reshelve/service/sort/ZCurve", "dimensions", "I"), (.int (3))), (("com/example/reshelve/reshelve/service/sort/ZCurve", "bits", "I"), (.int (3))), (("com/example/reshelve/reshelve/service/sort/ZCurve", "words", "I"), (.int (1)))]), .inr (.long, [(.long (Int64.ofNat t1.1)), (.long (Int64.ofNat t2.1)), (.long (Int64.ofNat t3.1))]), .inr (.long, [(.long (0))])] _ _ _
      refine W.iload d3_41 rfl ?_
      refine W.aloadN d3_43 rfl rfl ?_
      refine W.getfield 0 d3_44 (hw _ (wd 10 rfl)) rfl rfl ?_
      refine W.icmp_ge d3_47 (fun h => False.elim (by revert h; decide)) (fun h47 => ?_)
      refine W.aloadN d3_50 rfl rfl ?_
      refine W.iload d3_51 rfl ?_
      refine W.laload (i := 1) d3_53 rfl ⟨by decide, by decide⟩ rfl ?_
      refine W.iload d3_54 rfl ?_
      refine W.lushr d3_56 ?_
      refine W.lconst 1 d3_57 rfl ?_
      refine W.land d3_58 ?_
      refine W.lstore d3_59 rfl ?_
      refine W.lloadN d3_61 rfl ?_
      refine W.iconst 1 d3_62 rfl ?_
      refine W.lshl d3_63 ?_
      refine W.lload d3_64 rfl ?_
      refine W.lor d3_66 ?_
      refine W.lstoreN d3_67 rfl ?_
      refine W.iinc 1 d3_68 rfl rfl ?_
      show WB _ l Z n m3 71 [(.val (.ref 0)), (.val (.ref 1)), (.val (.ref 2)), (.val (.long (((((((((((((((((((0 : Int64) <<< ((1 : Int32) &&& 0x3f).toInt64) ||| ((XT.ushrL (Int64.ofNat t1.1) (3 - 1)) &&& 1)) <<< ((1 : Int32) &&& 0x3f).toInt64) ||| ((XT.ushrL (Int64.ofNat t2.1) (3 - 1)) &&& 1)) <<< ((1 : Int32) &&& 0x3f).toInt64) ||| ((XT.ushrL (Int64.ofNat t3.1) (3 - 1)) &&& 1)) <<< ((1 : Int32) &&& 0x3f).toInt64) ||| ((XT.ushrL (Int64.ofNat t3.1) ((3 - 1) + (-1))) &&& 1)) <<< ((1 : Int32) &&& 0x3f).toInt64) ||| ((XT.ushrL (Int64.ofNat t1.1) ((3 - 1) + (-1))) &&& 1)) <<< ((1 : Int32) &&& 0x3f).toInt64) ||| ((XT.ushrL (Int64.ofNat t2.1) ((3 - 1) + (-1))) &&& 1)) <<< ((1 : Int32) &&& 0x3f).toInt64) ||| ((XT.ushrL (Int64.ofNat t3.1) (((3 - 1) + (-1)) + (-1))) &&& 1)) <<< ((1 : Int32) &&& 0x3f).toInt64) ||| ((XT.ushrL (Int64.ofNat t1.1) (((3 - 1) + (-1)) + (-1))) &&& 1)) <<< ((1 : Int32) &&& 0x3f).toInt64) ||| ((XT.ushrL (Int64.ofNat t2.1) (((3 - 1) + (-1)) + (-1))) &&& 1)))), .second, (.val (.int (((((((((0 + 1) + 1) + 1) + 1) + 1) + 1) + 1) + 1) + 1))), (.val (.int (0))), (.val (.int (5 - 3))), (.val (.int (((3 - 1) + (-1)) + (-1)))), (.val (.int ((0 + (((XT.ushrL (Int64.ofNat t3.1) (((3 - 1) + (-1)) + (-1))) &&& 1).toInt32)) + (((XT.ushrL (Int64.ofNat t1.1) (((3 - 1) + (-1)) + (-1))) &&& 1).toInt32)))), (.val (.int (0 + 1))), (.val (.int ((0 + 1) + 1))), (.val (.long ((XT.ushrL (Int64.ofNat t2.1) (((3 - 1) + (-1)) + (-1))) &&& 1))), .second] [] [.inl ("com/example/reshelve/reshelve/service/sort/ZCurve", [(("com/example/reshelve/reshelve/service/sort/ZCurve", "dimensions", "I"), (.int (3))), (("com/example/reshelve/reshelve/service/sort/ZCurve", "bits", "I"), (.int (3))), (("com/example/reshelve/reshelve/service/sort/ZCurve", "words", "I"), (.int (1)))]), .inr (.long, [(.long (Int64.ofNat t1.1)), (.long (Int64.ofNat t2.1)), (.long (Int64.ofNat t3.1))]), .inr (.long, [(.long (0))])] _ _ _
      refine W.iload d3_71 rfl ?_
      refine W.bipush 64 d3_73 rfl ?_
      refine W.icmp_ne d3_75 (fun h75 => ?_) (fun h => False.elim (by revert h; decide))
      refine W.iload d3_89 rfl ?_
      refine W.lload d3_91 rfl ?_
      refine W.l2i d3_93 ?_
      refine W.iadd d3_94 ?_
      refine W.istore d3_95 rfl ?_
      refine W.iload d3_97 rfl ?_
      refine W.iconst 1 d3_99 rfl ?_
      refine W.iadd d3_100 ?_
      refine W.aloadN d3_101 rfl rfl ?_
      refine W.getfield 0 d3_102 (hw _ (wd 10 rfl)) rfl rfl ?_
      refine W.icmp_ne d3_105 (fun h105 => ?_) (fun h => False.elim (by revert h; decide))
      refine W.iload d3_112 rfl ?_
      refine W.iconst 1 d3_114 rfl ?_
      refine W.iadd d3_115 ?_
      refine W.istore d3_116 rfl ?_
      refine W.iinc 1 d3_118 rfl rfl ?_
      refine W.goto d3_121 ?_
      show W l Z n m3 41 [(.val (.ref 0)), (.val (.ref 1)), (.val (.ref 2)), (.val (.long (((((((((((((((((((0 : Int64) <<< ((1 : Int32) &&& 0x3f).toInt64) ||| ((XT.ushrL (Int64.ofNat t1.1) (3 - 1)) &&& 1)) <<< ((1 : Int32) &&& 0x3f).toInt64) ||| ((XT.ushrL (Int64.ofNat t2.1) (3 - 1)) &&& 1)) <<< ((1 : Int32) &&& 0x3f).toInt64) ||| ((XT.ushrL (Int64.ofNat t3.1) (3 - 1)) &&& 1)) <<< ((1 : Int32) &&& 0x3f).toInt64) ||| ((XT.ushrL (Int64.ofNat t3.1) ((3 - 1) + (-1))) &&& 1)) <<< ((1 : Int32) &&& 0x3f).toInt64) ||| ((XT.ushrL (Int64.ofNat t1.1) ((3 - 1) + (-1))) &&& 1)) <<< ((1 : Int32) &&& 0x3f).toInt64) ||| ((XT.ushrL (Int64.ofNat t2.1) ((3 - 1) + (-1))) &&& 1)) <<< ((1 : Int32) &&& 0x3f).toInt64) ||| ((XT.ushrL (Int64.ofNat t3.1) (((3 - 1) + (-1)) + (-1))) &&& 1)) <<< ((1 : Int32) &&& 0x3f).toInt64) ||| ((XT.ushrL (Int64.ofNat t1.1) (((3 - 1) + (-1)) + (-1))) &&& 1)) <<< ((1 : Int32) &&& 0x3f).toInt64) ||| ((XT.ushrL (Int64.ofNat t2.1) (((3 - 1) + (-1)) + (-1))) &&& 1)))), .second, (.val (.int (((((((((0 + 1) + 1) + 1) + 1) + 1) + 1) + 1) + 1) + 1))), (.val (.int (0))), (.val (.int (5 - 3))), (.val (.int (((3 - 1) + (-1)) + (-1)))), (.val (.int (((0 + (((XT.ushrL (Int64.ofNat t3.1) (((3 - 1) + (-1)) + (-1))) &&& 1).toInt32)) + (((XT.ushrL (Int64.ofNat t1.1) (((3 - 1) + (-1)) + (-1))) &&& 1).toInt32)) + (((XT.ushrL (Int64.ofNat t2.1) (((3 - 1) + (-1)) + (-1))) &&& 1).toInt32)))), (.val (.int ((0 + 1) + 1))), (.val (.int (((0 + 1) + 1) + 1))), (.val (.long ((XT.ushrL (Int64.ofNat t2.1) (((3 - 1) + (-1)) + (-1))) &&& 1))), .second] [] [.inl ("com/example/reshelve/reshelve/service/sort/ZCurve", [(("com/example/reshelve/reshelve/service/sort/ZCurve", "dimensions", "I"), (.int (3))), (("com/example/reshelve/reshelve/service/sort/ZCurve", "bits", "I"), (.int (3))), (("com/example/reshelve/reshelve/service/sort/ZCurve", "words", "I"), (.int (1)))]), .inr (.long, [(.long (Int64.ofNat t1.1)), (.long (Int64.ofNat t2.1)), (.long (Int64.ofNat t3.1))]), .inr (.long, [(.long (0))])] _ _ _
      refine W.iload d3_41 rfl ?_
      refine W.aloadN d3_43 rfl rfl ?_
      refine W.getfield 0 d3_44 (hw _ (wd 10 rfl)) rfl rfl ?_
      refine W.icmp_ge d3_47 (fun h47 => ?_) (fun h => False.elim (by revert h; decide))
      refine W.iload d3_124 rfl ?_
      refine W.iload d3_126 rfl ?_
      refine W.iadd d3_128 ?_
      refine W.istore d3_129 rfl ?_
      show WB _ l Z n m3 131 [(.val (.ref 0)), (.val (.ref 1)), (.val (.ref 2)), (.val (.long (((((((((((((((((((0 : Int64) <<< ((1 : Int32) &&& 0x3f).toInt64) ||| ((XT.ushrL (Int64.ofNat t1.1) (3 - 1)) &&& 1)) <<< ((1 : Int32) &&& 0x3f).toInt64) ||| ((XT.ushrL (Int64.ofNat t2.1) (3 - 1)) &&& 1)) <<< ((1 : Int32) &&& 0x3f).toInt64) ||| ((XT.ushrL (Int64.ofNat t3.1) (3 - 1)) &&& 1)) <<< ((1 : Int32) &&& 0x3f).toInt64) ||| ((XT.ushrL (Int64.ofNat t3.1) ((3 - 1) + (-1))) &&& 1)) <<< ((1 : Int32) &&& 0x3f).toInt64) ||| ((XT.ushrL (Int64.ofNat t1.1) ((3 - 1) + (-1))) &&& 1)) <<< ((1 : Int32) &&& 0x3f).toInt64) ||| ((XT.ushrL (Int64.ofNat t2.1) ((3 - 1) + (-1))) &&& 1)) <<< ((1 : Int32) &&& 0x3f).toInt64) ||| ((XT.ushrL (Int64.ofNat t3.1) (((3 - 1) + (-1)) + (-1))) &&& 1)) <<< ((1 : Int32) &&& 0x3f).toInt64) ||| ((XT.ushrL (Int64.ofNat t1.1) (((3 - 1) + (-1)) + (-1))) &&& 1)) <<< ((1 : Int32) &&& 0x3f).toInt64) ||| ((XT.ushrL (Int64.ofNat t2.1) (((3 - 1) + (-1)) + (-1))) &&& 1)))), .second, (.val (.int (((((((((0 + 1) + 1) + 1) + 1) + 1) + 1) + 1) + 1) + 1))), (.val (.int (0))), (.val (.int ((5 - 3) + (((0 + (((XT.ushrL (Int64.ofNat t3.1) (((3 - 1) + (-1)) + (-1))) &&& 1).toInt32)) + (((XT.ushrL (Int64.ofNat t1.1) (((3 - 1) + (-1)) + (-1))) &&& 1).toInt32)) + (((XT.ushrL (Int64.ofNat t2.1) (((3 - 1) + (-1)) + (-1))) &&& 1).toInt32))))), (.val (.int (((3 - 1) + (-1)) + (-1)))), (.val (.int (((0 + (((XT.ushrL (Int64.ofNat t3.1) (((3 - 1) + (-1)) + (-1))) &&& 1).toInt32)) + (((XT.ushrL (Int64.ofNat t1.1) (((3 - 1) + (-1)) + (-1))) &&& 1).toInt32)) + (((XT.ushrL (Int64.ofNat t2.1) (((3 - 1) + (-1)) + (-1))) &&& 1).toInt32)))), (.val (.int ((0 + 1) + 1))), (.val (.int (((0 + 1) + 1) + 1))), (.val (.long ((XT.ushrL (Int64.ofNat t2.1) (((3 - 1) + (-1)) + (-1))) &&& 1))), .second] [] [.inl ("com/example/reshelve/reshelve/service/sort/ZCurve", [(("com/example/reshelve/reshelve/service/sort/ZCurve", "dimensions", "I"), (.int (3))), (("com/example/reshelve/reshelve/service/sort/ZCurve", "bits", "I"), (.int (3))), (("com/example/reshelve/reshelve/service/sort/ZCurve", "words", "I"), (.int (1)))]), .inr (.long, [(.long (Int64.ofNat t1.1)), (.long (Int64.ofNat t2.1)), (.long (Int64.ofNat t3.1))]), .inr (.long, [(.long (0))])] _ _ _
      refine W.iload d3_131 rfl ?_
      refine W.aloadN d3_133 rfl rfl ?_
      refine W.getfield 0 d3_134 (hw _ (wd 10 rfl)) rfl rfl ?_
      refine W.icmp_lt d3_137 (fun h137 => ?_) (fun h137 => ?_)
      · refine W.iinc (-1) d3_149 rfl rfl ?_
        refine W.goto d3_152 ?_
        refine W.iload d3_26 rfl ?_
        refine W.if_lt d3_28 (fun h28 => ?_) (fun h => False.elim (by revert h; decide))
        refine W.iload d3_155 rfl ?_
        refine W.if_le d3_157 (fun h => False.elim (by revert h; decide)) (fun h157 => ?_)
        refine W.aloadN d3_160 rfl rfl ?_
        refine W.iload d3_161 rfl ?_
        refine W.lloadN d3_163 rfl ?_
        refine W.bipush 64 d3_164 rfl ?_
        refine W.iload d3_166 rfl ?_
        refine W.isub d3_168 ?_
        refine W.lshl d3_169 ?_
        refine W.lastore (i := 0) d3_170 rfl ⟨by decide, by decide⟩ (by simp) ?_
        refine W.aloadN d3_171 rfl rfl ?_
        exact W.areturn d3_172 rfl rfl rfl (by decide) (by decide) (⟨rfl, by rw [own_k15 t1 t2 t3 q0 q1] <;> rfl⟩)
      · refine W.iload d3_140 rfl ?_
        refine W.aloadN d3_142 rfl rfl ?_
        refine W.getfield 0 d3_143 (hw _ (wd 10 rfl)) rfl rfl ?_
        refine W.isub d3_146 ?_
        refine W.istore d3_147 rfl ?_
        refine W.iinc (-1) d3_149 rfl rfl ?_
        refine W.goto d3_152 ?_
        refine W.iload d3_26 rfl ?_
        refine W.if_lt d3_28 (fun h28 => ?_) (fun h => False.elim (by revert h; decide))
        refine W.iload d3_155 rfl ?_
        refine W.if_le d3_157 (fun h => False.elim (by revert h; decide)) (fun h157 => ?_)
        refine W.aloadN d3_160 rfl rfl ?_
        refine W.iload d3_161 rfl ?_
        refine W.lloadN d3_163 rfl ?_
        refine W.bipush 64 d3_164 rfl ?_
        refine W.iload d3_166 rfl ?_
        refine W.isub d3_168 ?_
        refine W.lshl d3_169 ?_
        refine W.lastore (i := 0) d3_170 rfl ⟨by decide, by decide⟩ (by simp) ?_
        refine W.aloadN d3_171 rfl rfl ?_
        exact W.areturn d3_172 rfl rfl rfl (by decide) (by decide) (⟨rfl, by rw [own_k15 t1 t2 t3 q0 q1] <;> rfl⟩)
  · rw [q0]
    refine W.istore d3_129 rfl ?_
    refine W.iload d3_131 rfl ?_
    refine W.aloadN d3_133 rfl rfl ?_
    refine W.getfield 0 d3_134 (hw _ (wd 10 rfl)) rfl rfl ?_
    refine W.icmp_lt d3_137 (fun h => False.elim (by revert h; decide)) (fun h137 => ?_)
    refine W.iload d3_140 rfl ?_
    refine W.aloadN d3_142 rfl rfl ?_
    refine W.getfield 0 d3_143 (hw _ (wd 10 rfl)) rfl rfl ?_
    refine W.isub d3_146 ?_
    refine W.istore d3_147 rfl ?_
    refine W.iinc (-1) d3_149 rfl rfl ?_
    refine W.goto d3_152 ?_
    refine W.iload d3_26 rfl ?_
    refine W.if_lt d3_28 (fun h => False.elim (by revert h; decide)) (fun h28 => ?_)
    refine W.iconst 0 d3_31 rfl ?_
    refine W.istore d3_32 rfl ?_
    show WB _ l Z n m3 34 [(.val (.ref 0)), (.val (.ref 1)), (.val (.ref 2)), (.val (.long (((((((0 : Int64) <<< ((1 : Int32) &&& 0x3f).toInt64) ||| ((XT.ushrL (Int64.ofNat t1.1) (3 - 1)) &&& 1)) <<< ((1 : Int32) &&& 0x3f).toInt64) ||| ((XT.ushrL (Int64.ofNat t2.1) (3 - 1)) &&& 1)) <<< ((1 : Int32) &&& 0x3f).toInt64) ||| ((XT.ushrL (Int64.ofNat t3.1) (3 - 1)) &&& 1)))), .second, (.val (.int (((0 + 1) + 1) + 1))), (.val (.int (0))), (.val (.int (3 - 3))), (.val (.int ((3 - 1) + (-1)))), (.val (.int (0))), (.val (.int (0))), (.val (.int (((0 + 1) + 1) + 1))), (.val (.long ((XT.ushrL (Int64.ofNat t3.1) (3 - 1)) &&& 1))), .second] [] [.inl ("com/example/reshelve/reshelve/service/sort/ZCurve", [(("com/example/reshelve/reshelve/service/sort/ZCurve", "dimensions", "I"), (.int (3))), (("com/example/reshelve/reshelve/service/sort/ZCurve", "bits", "I"), (.int (3))), (("com/example/reshelve/reshelve/service/sort/ZCurve", "words", "I"), (.int (1)))]), .inr (.long, [(.long (Int64.ofNat t1.1)), (.long (Int64.ofNat t2.1)), (.long (Int64.ofNat t3.1))]), .inr (.long, [(.long (0))])] _ _ _
    refine W.iload d3_34 rfl ?_
    refine W.istore d3_36 rfl ?_
    refine W.iconst 0 d3_38 rfl ?_
    refine W.istore d3_39 rfl ?_
    show W l Z n m3 41 [(.val (.ref 0)), (.val (.ref 1)), (.val (.ref 2)), (.val (.long (((((((0 : Int64) <<< ((1 : Int32) &&& 0x3f).toInt64) ||| ((XT.ushrL (Int64.ofNat t1.1) (3 - 1)) &&& 1)) <<< ((1 : Int32) &&& 0x3f).toInt64) ||| ((XT.ushrL (Int64.ofNat t2.1) (3 - 1)) &&& 1)) <<< ((1 : Int32) &&& 0x3f).toInt64) ||| ((XT.ushrL (Int64.ofNat t3.1) (3 - 1)) &&& 1)))), .second, (.val (.int (((0 + 1) + 1) + 1))), (.val (.int (0))), (.val (.int (3 - 3))), (.val (.int ((3 - 1) + (-1)))), (.val (.int (0))), (.val (.int (3 - 3))), (.val (.int (0))), (.val (.long ((XT.ushrL (Int64.ofNat t3.1) (3 - 1)) &&& 1))), .second] [] [.inl ("com/example/reshelve/reshelve/service/sort/ZCurve", [(("com/example/reshelve/reshelve/service/sort/ZCurve", "dimensions", "I"), (.int (3))), (("com/example/reshelve/reshelve/service/sort/ZCurve", "bits", "I"), (.int (3))), (("com/example/reshelve/reshelve/service/sort/ZCurve", "words", "I"), (.int (1)))]), .inr (.long, [(.long (Int64.ofNat t1.1)), (.long (Int64.ofNat t2.1)), (.long (Int64.ofNat t3.1))]), .inr (.long, [(.long (0))])] _ _ _
    refine W.iload d3_41 rfl ?_
    refine W.aloadN d3_43 rfl rfl ?_
    refine W.getfield 0 d3_44 (hw _ (wd 10 rfl)) rfl rfl ?_
    refine W.icmp_ge d3_47 (fun h => False.elim (by revert h; decide)) (fun h47 => ?_)
    refine W.aloadN d3_50 rfl rfl ?_
    refine W.iload d3_51 rfl ?_
    refine W.laload (i := 0) d3_53 rfl ⟨by decide, by decide⟩ rfl ?_
    refine W.iload d3_54 rfl ?_
    refine W.lushr d3_56 ?_
    refine W.lconst 1 d3_57 rfl ?_
    refine W.land d3_58 ?_
    refine W.lstore d3_59 rfl ?_
    refine W.lloadN d3_61 rfl ?_
    refine W.iconst 1 d3_62 rfl ?_
    refine W.lshl d3_63 ?_
    refine W.lload d3_64 rfl ?_
    refine W.lor d3_66 ?_
    refine W.lstoreN d3_67 rfl ?_
    show WB _ l Z n m3 68 [(.val (.ref 0)), (.val (.ref 1)), (.val (.ref 2)), (.val (.long (((((((((0 : Int64) <<< ((1 : Int32) &&& 0x3f).toInt64) ||| ((XT.ushrL (Int64.ofNat t1.1) (3 - 1)) &&& 1)) <<< ((1 : Int32) &&& 0x3f).toInt64) ||| ((XT.ushrL (Int64.ofNat t2.1) (3 - 1)) &&& 1)) <<< ((1 : Int32) &&& 0x3f).toInt64) ||| ((XT.ushrL (Int64.ofNat t3.1) (3 - 1)) &&& 1)) <<< ((1 : Int32) &&& 0x3f).toInt64) ||| ((XT.ushrL (Int64.ofNat t1.1) ((3 - 1) + (-1))) &&& 1)))), .second, (.val (.int (((0 + 1) + 1) + 1))), (.val (.int (0))), (.val (.int (3 - 3))), (.val (.int ((3 - 1) + (-1)))), (.val (.int (0))), (.val (.int (3 - 3))), (.val (.int (0))), (.val (.long ((XT.ushrL (Int64.ofNat t1.1) ((3 - 1) + (-1))) &&& 1))), .second] [] [.inl ("com/example/reshelve/reshelve/service/sort/ZCurve", [(("com/example/reshelve/reshelve/service/sort/ZCurve", "dimensions", "I"), (.int (3))), (("com/example/reshelve/reshelve/service/sort/ZCurve", "bits", "I"), (.int (3))), (("com/example/reshelve/reshelve/service/sort/ZCurve", "words", "I"), (.int (1)))]), .inr (.long, [(.long (Int64.ofNat t1.1)), (.long (Int64.ofNat t2.1)), (.long (Int64.ofNat t3.1))]), .inr (.long, [(.long (0))])] _ _ _
    refine W.iinc 1 d3_68 rfl rfl ?_
    refine W.iload d3_71 rfl ?_
    refine W.bipush 64 d3_73 rfl ?_
    refine W.icmp_ne d3_75 (fun h75 => ?_) (fun h => False.elim (by revert h; decide))
    refine W.iload d3_89 rfl ?_
    refine W.lload d3_91 rfl ?_
    refine W.l2i d3_93 ?_
    refine W.iadd d3_94 ?_
    refine W.istore d3_95 rfl ?_
    refine W.iload d3_97 rfl ?_
    refine W.iconst 1 d3_99 rfl ?_
    refine W.iadd d3_100 ?_
    refine W.aloadN d3_101 rfl rfl ?_
    refine W.getfield 0 d3_102 (hw _ (wd 10 rfl)) rfl rfl ?_
    refine W.icmp_ne d3_105 (fun h105 => ?_) (fun h => False.elim (by revert h; decide))
    refine W.iload d3_112 rfl ?_
    refine W.iconst 1 d3_114 rfl ?_
    refine W.iadd d3_115 ?_
    refine W.istore d3_116 rfl ?_
    refine W.iinc 1 d3_118 rfl rfl ?_
    show WB _ l Z n m3 121 [(.val (.ref 0)), (.val (.ref 1)), (.val (.ref 2)), (.val (.long (((((((((0 : Int64) <<< ((1 : Int32) &&& 0x3f).toInt64) ||| ((XT.ushrL (Int64.ofNat t1.1) (3 - 1)) &&& 1)) <<< ((1 : Int32) &&& 0x3f).toInt64) ||| ((XT.ushrL (Int64.ofNat t2.1) (3 - 1)) &&& 1)) <<< ((1 : Int32) &&& 0x3f).toInt64) ||| ((XT.ushrL (Int64.ofNat t3.1) (3 - 1)) &&& 1)) <<< ((1 : Int32) &&& 0x3f).toInt64) ||| ((XT.ushrL (Int64.ofNat t1.1) ((3 - 1) + (-1))) &&& 1)))), .second, (.val (.int ((((0 + 1) + 1) + 1) + 1))), (.val (.int (0))), (.val (.int (3 - 3))), (.val (.int ((3 - 1) + (-1)))), (.val (.int (0 + (((XT.ushrL (Int64.ofNat t1.1) ((3 - 1) + (-1))) &&& 1).toInt32)))), (.val (.int ((3 - 3) + 1))), (.val (.int (0 + 1))), (.val (.long ((XT.ushrL (Int64.ofNat t1.1) ((3 - 1) + (-1))) &&& 1))), .second] [] [.inl ("com/example/reshelve/reshelve/service/sort/ZCurve", [(("com/example/reshelve/reshelve/service/sort/ZCurve", "dimensions", "I"), (.int (3))), (("com/example/reshelve/reshelve/service/sort/ZCurve", "bits", "I"), (.int (3))), (("com/example/reshelve/reshelve/service/sort/ZCurve", "words", "I"), (.int (1)))]), .inr (.long, [(.long (Int64.ofNat t1.1)), (.long (Int64.ofNat t2.1)), (.long (Int64.ofNat t3.1))]), .inr (.long, [(.long (0))])] _ _ _
    refine W.goto d3_121 ?_
    show W l Z n m3 41 [(.val (.ref 0)), (.val (.ref 1)), (.val (.ref 2)), (.val (.long (((((((((0 : Int64) <<< ((1 : Int32) &&& 0x3f).toInt64) ||| ((XT.ushrL (Int64.ofNat t1.1) (3 - 1)) &&& 1)) <<< ((1 : Int32) &&& 0x3f).toInt64) ||| ((XT.ushrL (Int64.ofNat t2.1) (3 - 1)) &&& 1)) <<< ((1 : Int32) &&& 0x3f).toInt64) ||| ((XT.ushrL (Int64.ofNat t3.1) (3 - 1)) &&& 1)) <<< ((1 : Int32) &&& 0x3f).toInt64) ||| ((XT.ushrL (Int64.ofNat t1.1) ((3 - 1) + (-1))) &&& 1)))), .second, (.val (.int ((((0 + 1) + 1) + 1) + 1))), (.val (.int (0))), (.val (.int (3 - 3))), (.val (.int ((3 - 1) + (-1)))), (.val (.int (0 + (((XT.ushrL (Int64.ofNat t1.1) ((3 - 1) + (-1))) &&& 1).toInt32)))), (.val (.int ((3 - 3) + 1))), (.val (.int (0 + 1))), (.val (.long ((XT.ushrL (Int64.ofNat t1.1) ((3 - 1) + (-1))) &&& 1))), .second] [] [.inl ("com/example/reshelve/reshelve/service/sort/ZCurve", [(("com/example/reshelve/reshelve/service/sort/ZCurve", "dimensions", "I"), (.int (3))), (("com/example/reshelve/reshelve/service/sort/ZCurve", "bits", "I"), (.int (3))), (("com/example/reshelve/reshelve/service/sort/ZCurve", "words", "I"), (.int (1)))]), .inr (.long, [(.long (Int64.ofNat t1.1)), (.long (Int64.ofNat t2.1)), (.long (Int64.ofNat t3.1))]), .inr (.long, [(.long (0))])] _ _ _
    refine W.iload d3_41 rfl ?_
    refine W.aloadN d3_43 rfl rfl ?_
    refine W.getfield 0 d3_44 (hw _ (wd 10 rfl)) rfl rfl ?_
    refine W.icmp_ge d3_47 (fun h => False.elim (by revert h; decide)) (fun h47 => ?_)
    refine W.aloadN d3_50 rfl rfl ?_
    refine W.iload d3_51 rfl ?_
    refine W.laload (i := 1) d3_53 rfl ⟨by decide, by decide⟩ rfl ?_
    refine W.iload d3_54 rfl ?_
    refine W.lushr d3_56 ?_
    refine W.lconst 1 d3_57 rfl ?_
    refine W.land d3_58 ?_
    refine W.lstore d3_59 rfl ?_
    refine W.lloadN d3_61 rfl ?_
    refine W.iconst 1 d3_62 rfl ?_
    refine W.lshl d3_63 ?_
    refine W.lload d3_64 rfl ?_
    refine W.lor d3_66 ?_
    refine W.lstoreN d3_67 rfl ?_
    refine W.iinc 1 d3_68 rfl rfl ?_
    refine W.iload d3_71 rfl ?_
    refine W.bipush 64 d3_73 rfl ?_
    refine W.icmp_ne d3_75 (fun h75 => ?_) (fun h => False.elim (by revert h; decide))
    refine W.iload d3_89 rfl ?_
    refine W.lload d3_91 rfl ?_
    refine W.l2i d3_93 ?_
    refine W.iadd d3_94 ?_
    refine W.istore d3_95 rfl ?_
    show WB _ l Z n m3 97 [(.val (.ref 0)), (.val (.ref 1)), (.val (.ref 2)), (.val (.long (((((((((((0 : Int64) <<< ((1 : Int32) &&& 0x3f).toInt64) ||| ((XT.ushrL (Int64.ofNat t1.1) (3 - 1)) &&& 1)) <<< ((1 : Int32) &&& 0x3f).toInt64) ||| ((XT.ushrL (Int64.ofNat t2.1) (3 - 1)) &&& 1)) <<< ((1 : Int32) &&& 0x3f).toInt64) ||| ((XT.ushrL (Int64.ofNat t3.1) (3 - 1)) &&& 1)) <<< ((1 : Int32) &&& 0x3f).toInt64) ||| ((XT.ushrL (Int64.ofNat t1.1) ((3 - 1) + (-1))) &&& 1)) <<< ((1 : Int32) &&& 0x3f).toInt64) ||| ((XT.ushrL (Int64.ofNat t2.1) ((3 - 1) + (-1))) &&& 1)))), .second, (.val (.int (((((0 + 1) + 1) + 1) + 1) + 1))), (.val (.int (0))), (.val (.int (3 - 3))), (.val (.int ((3 - 1) + (-1)))), (.val (.int ((0 + (((XT.ushrL (Int64.ofNat t1.1) ((3 - 1) + (-1))) &&& 1).toInt32)) + (((XT.ushrL (Int64.ofNat t2.1) ((3 - 1) + (-1))) &&& 1).toInt32)))), (.val (.int ((3 - 3) + 1))), (.val (.int (0 + 1))), (.val (.long ((XT.ushrL (Int64.ofNat t2.1) ((3 - 1) + (-1))) &&& 1))), .second] [] [.inl ("com/example/reshelve/reshelve/service/sort/ZCurve", [(("com/example/reshelve/reshelve/service/sort/ZCurve", "dimensions", "I"), (.int (3))), (("com/example/reshelve/reshelve/service/sort/ZCurve", "bits", "I"), (.int (3))), (("com/example/reshelve/reshelve/service/sort/ZCurve", "words", "I"), (.int (1)))]), .inr (.long, [(.long (Int64.ofNat t1.1)), (.long (Int64.ofNat t2.1)), (.long (Int64.ofNat t3.1))]), .inr (.long, [(.long (0))])] _ _ _
    refine W.iload d3_97 rfl ?_
    refine W.iconst 1 d3_99 rfl ?_
    refine W.iadd d3_100 ?_
    refine W.aloadN d3_101 rfl rfl ?_
    refine W.getfield 0 d3_102 (hw _ (wd 10 rfl)) rfl rfl ?_
    refine W.icmp_ne d3_105 (fun h105 => ?_) (fun h => False.elim (by revert h; decide))
    refine W.iload d3_112 rfl ?_
    refine W.iconst 1 d3_114 rfl ?_
    refine W.iadd d3_115 ?_
    refine W.istore d3_116 rfl ?_
    refine W.iinc 1 d3_118 rfl rfl ?_
    refine W.goto d3_121 ?_
    show W l Z n m3 41 [(.val (.ref 0)), (.val (.ref 1)), (.val (.ref 2)), (.val (.long (((((((((((0 : Int64) <<< ((1 : Int32) &&& 0x3f).toInt64) ||| ((XT.ushrL (Int64.ofNat t1.1) (3 - 1)) &&& 1)) <<< ((1 : Int32) &&& 0x3f).toInt64) ||| ((XT.ushrL (Int64.ofNat t2.1) (3 - 1)) &&& 1)) <<< ((1 : Int32) &&& 0x3f).toInt64) ||| ((XT.ushrL (Int64.ofNat t3.1) (3 - 1)) &&& 1)) <<< ((1 : Int32) &&& 0x3f).toInt64) ||| ((XT.ushrL (Int64.ofNat t1.1) ((3 - 1) + (-1))) &&& 1)) <<< ((1 : Int32) &&& 0x3f).toInt64) ||| ((XT.ushrL (Int64.ofNat t2.1) ((3 - 1) + (-1))) &&& 1)))), .second, (.val (.int (((((0 + 1) + 1) + 1) + 1) + 1))), (.val (.int (0))), (.val (.int (3 - 3))), (.val (.int ((3 - 1) + (-1)))), (.val (.int ((0 + (((XT.ushrL (Int64.ofNat t1.1) ((3 - 1) + (-1))) &&& 1).toInt32)) + (((XT.ushrL (Int64.ofNat t2.1) ((3 - 1) + (-1))) &&& 1).toInt32)))), (.val (.int (((3 - 3) + 1) + 1))), (.val (.int ((0 + 1) + 1))), (.val (.long ((XT.ushrL (Int64.ofNat t2.1) ((3 - 1) + (-1))) &&& 1))), .second] [] [.inl ("com/example/reshelve/reshelve/service/sort/ZCurve", [(("com/example/reshelve/reshelve/service/sort/ZCurve", "dimensions", "I"), (.int (3))), (("com/example/reshelve/reshelve/service/sort/ZCurve", "bits", "I"), (.int (3))), (("com/example/reshelve/reshelve/service/sort/ZCurve", "words", "I"), (.int (1)))]), .inr (.long, [(.long (Int64.ofNat t1.1)), (.long (Int64.ofNat t2.1)), (.long (Int64.ofNat t3.1))]), .inr (.long, [(.long (0))])] _ _ _
    refine W.iload d3_41 rfl ?_
    refine W.aloadN d3_43 rfl rfl ?_
    refine W.getfield 0 d3_44 (hw _ (wd 10 rfl)) rfl rfl ?_
    refine W.icmp_ge d3_47 (fun h => False.elim (by revert h; decide)) (fun h47 => ?_)
    refine W.aloadN d3_50 rfl rfl ?_
    refine W.iload d3_51 rfl ?_
    refine W.laload (i := 2) d3_53 rfl ⟨by decide, by decide⟩ rfl ?_
    refine W.iload d3_54 rfl ?_
    refine W.lushr d3_56 ?_
    refine W.lconst 1 d3_57 rfl ?_
    refine W.land d3_58 ?_
    refine W.lstore d3_59 rfl ?_
    refine W.lloadN d3_61 rfl ?_
    refine W.iconst 1 d3_62 rfl ?_
    refine W.lshl d3_63 ?_
    refine W.lload d3_64 rfl ?_
    refine W.lor d3_66 ?_
    refine W.lstoreN d3_67 rfl ?_
    show WB _ l Z n m3 68 [(.val (.ref 0)), (.val (.ref 1)), (.val (.ref 2)), (.val (.long (((((((((((((0 : Int64) <<< ((1 : Int32) &&& 0x3f).toInt64) ||| ((XT.ushrL (Int64.ofNat t1.1) (3 - 1)) &&& 1)) <<< ((1 : Int32) &&& 0x3f).toInt64) ||| ((XT.ushrL (Int64.ofNat t2.1) (3 - 1)) &&& 1)) <<< ((1 : Int32) &&& 0x3f).toInt64) ||| ((XT.ushrL (Int64.ofNat t3.1) (3 - 1)) &&& 1)) <<< ((1 : Int32) &&& 0x3f).toInt64) ||| ((XT.ushrL (Int64.ofNat t1.1) ((3 - 1) + (-1))) &&& 1)) <<< ((1 : Int32) &&& 0x3f).toInt64) ||| ((XT.ushrL (Int64.ofNat t2.1) ((3 - 1) + (-1))) &&& 1)) <<< ((1 : Int32) &&& 0x3f).toInt64) ||| ((XT.ushrL (Int64.ofNat t3.1) ((3 - 1) + (-1))) &&& 1)))), .second, (.val (.int (((((0 + 1) + 1) + 1) + 1) + 1))), (.val (.int (0))), (.val (.int (3 - 3))), (.val (.int ((3 - 1) + (-1)))), (.val (.int ((0 + (((XT.ushrL (Int64.ofNat t1.1) ((3 - 1) + (-1))) &&& 1).toInt32)) + (((XT.ushrL (Int64.ofNat t2.1) ((3 - 1) + (-1))) &&& 1).toInt32)))), (.val (.int (((3 - 3) + 1) + 1))), (.val (.int ((0 + 1) + 1))), (.val (.long ((XT.ushrL (Int64.ofNat t3.1) ((3 - 1) + (-1))) &&& 1))), .second] [] [.inl ("com/example/reshelve/reshelve/service/sort/ZCurve", [(("com/example/reshelve/reshelve/service/sort/ZCurve", "dimensions", "I"), (.int (3))), (("com/example/reshelve/reshelve/service/sort/ZCurve", "bits", "I"), (.int (3))), (("com/example/reshelve/reshelve/service/sort/ZCurve", "words", "I"), (.int (1)))]), .inr (.long, [(.long (Int64.ofNat t1.1)), (.long (Int64.ofNat t2.1)), (.long (Int64.ofNat t3.1))]), .inr (.long, [(.long (0))])] _ _ _
    refine W.iinc 1 d3_68 rfl rfl ?_
    refine W.iload d3_71 rfl ?_
    refine W.bipush 64 d3_73 rfl ?_
    refine W.icmp_ne d3_75 (fun h75 => ?_) (fun h => False.elim (by revert h; decide))
    refine W.iload d3_89 rfl ?_
    refine W.lload d3_91 rfl ?_
    refine W.l2i d3_93 ?_
    refine W.iadd d3_94 ?_
    refine W.istore d3_95 rfl ?_
    refine W.iload d3_97 rfl ?_
    refine W.iconst 1 d3_99 rfl ?_
    refine W.iadd d3_100 ?_
    refine W.aloadN d3_101 rfl rfl ?_
    refine W.getfield 0 d3_102 (hw _ (wd 10 rfl)) rfl rfl ?_
    refine W.icmp_ne d3_105 (fun h => False.elim (by revert h; decide)) (fun h105 => ?_)
    refine W.iconst 0 d3_108 rfl ?_
    refine W.goto d3_109 ?_
    refine W.istore d3_116 rfl ?_
    refine W.iinc 1 d3_118 rfl rfl ?_
    show WB _ l Z n m3 121 [(.val (.ref 0)), (.val (.ref 1)), (.val (.ref 2)), (.val (.long (((((((((((((0 : Int64) <<< ((1 : Int32) &&& 0x3f).toInt64) ||| ((XT.ushrL (Int64.ofNat t1.1) (3 - 1)) &&& 1)) <<< ((1 : Int32) &&& 0x3f).toInt64) ||| ((XT.ushrL (Int64.ofNat t2.1) (3 - 1)) &&& 1)) <<< ((1 : Int32) &&& 0x3f).toInt64) ||| ((XT.ushrL (Int64.ofNat t3.1) (3 - 1)) &&& 1)) <<< ((1 : Int32) &&& 0x3f).toInt64) ||| ((XT.ushrL (Int64.ofNat t1.1) ((3 - 1) + (-1))) &&& 1)) <<< ((1 : Int32) &&& 0x3f).toInt64) ||| ((XT.ushrL (Int64.ofNat t2.1) ((3 - 1) + (-1))) &&& 1)) <<< ((1 : Int32) &&& 0x3f).toInt64) ||| ((XT.ushrL (Int64.ofNat t3.1) ((3 - 1) + (-1))) &&& 1)))), .second, (.val (.int ((((((0 + 1) + 1) + 1) + 1) + 1) + 1))), (.val (.int (0))), (.val (.int (3 - 3))), (.val (.int ((3 - 1) + (-1)))), (.val (.int (((0 + (((XT.ushrL (Int64.ofNat t1.1) ((3 - 1) + (-1))) &&& 1).toInt32)) + (((XT.ushrL (Int64.ofNat t2.1) ((3 - 1) + (-1))) &&& 1).toInt32)) + (((XT.ushrL (Int64.ofNat t3.1) ((3 - 1) + (-1))) &&& 1).toInt32)))), (.val (.int (0))), (.val (.int (((0 + 1) + 1) + 1))), (.val (.long ((XT.ushrL (Int64.ofNat t3.1) ((3 - 1) + (-1))) &&& 1))), .second] [] [.inl ("com/example/reshelve/reshelve/service/sort/ZCurve", [(("com/example/reshelve/reshelve/service/sort/ZCurve", "dimensions", "I"), (.int (3))), (("com/example/reshelve/reshelve/service/sort/ZCurve", "bits", "I"), (.int (3))), (("com/example/reshelve/reshelve/service/sort/ZCurve", "words", "I"), (.int (1)))]), .inr (.long, [(.long (Int64.ofNat t1.1)), (.long (Int64.ofNat t2.1)), (.long (Int64.ofNat t3.1))]), .inr (.long, [(.long (0))])] _ _ _
    refine W.goto d3_121 ?_
    show W l Z n m3 41 [(.val (.ref 0)), (.val (.ref 1)), (.val (.ref 2)), (.val (.long (((((((((((((0 : Int64) <<< ((1 : Int32) &&& 0x3f).toInt64) ||| ((XT.ushrL (Int64.ofNat t1.1) (3 - 1)) &&& 1)) <<< ((1 : Int32) &&& 0x3f).toInt64) ||| ((XT.ushrL (Int64.ofNat t2.1) (3 - 1)) &&& 1)) <<< ((1 : Int32) &&& 0x3f).toInt64) ||| ((XT.ushrL (Int64.ofNat t3.1) (3 - 1)) &&& 1)) <<< ((1 : Int32) &&& 0x3f).toInt64) ||| ((XT.ushrL (Int64.ofNat t1.1) ((3 - 1) + (-1))) &&& 1)) <<< ((1 : Int32) &&& 0x3f).toInt64) ||| ((XT.ushrL (Int64.ofNat t2.1) ((3 - 1) + (-1))) &&& 1)) <<< ((1 : Int32) &&& 0x3f).toInt64) ||| ((XT.ushrL (Int64.ofNat t3.1) ((3 - 1) + (-1))) &&& 1)))), .second, (.val (.int ((((((0 + 1) + 1) + 1) + 1) + 1) + 1))), (.val (.int (0))), (.val (.int (3 - 3))), (.val (.int ((3 - 1) + (-1)))), (.val (.int (((0 + (((XT.ushrL (Int64.ofNat t1.1) ((3 - 1) + (-1))) &&& 1).toInt32)) + (((XT.ushrL (Int64.ofNat t2.1) ((3 - 1) + (-1))) &&& 1).toInt32)) + (((XT.ushrL (Int64.ofNat t3.1) ((3 - 1) + (-1))) &&& 1).toInt32)))), (.val (.int (0))), (.val (.int (((0 + 1) + 1) + 1))), (.val (.long ((XT.ushrL (Int64.ofNat t3.1) ((3 - 1) + (-1))) &&& 1))), .second] [] [.inl ("com/example/reshelve/reshelve/service/sort/ZCurve", [(("com/example/reshelve/reshelve/service/sort/ZCurve", "dimensions", "I"), (.int (3))), (("com/example/reshelve/reshelve/service/sort/ZCurve", "bits", "I"), (.int (3))), (("com/example/reshelve/reshelve/service/sort/ZCurve", "words", "I"), (.int (1)))]), .inr (.long, [(.long (Int64.ofNat t1.1)), (.long (Int64.ofNat t2.1)), (.long (Int64.ofNat t3.1))]), .inr (.long, [(.long (0))])] _ _ _
    refine W.iload d3_41 rfl ?_
    refine W.aloadN d3_43 rfl rfl ?_
    refine W.getfield 0 d3_44 (hw _ (wd 10 rfl)) rfl rfl ?_
    refine W.icmp_ge d3_47 (fun h47 => ?_) (fun h => False.elim (by revert h; decide))
    refine W.iload d3_124 rfl ?_
    refine W.iload d3_126 rfl ?_
    refine W.iadd d3_128 ?_
    rcases own_k16 t1 t2 t3 with q1 | q1 | q1 | q1
    · rw [q1]
      refine W.istore d3_129 rfl ?_
      refine W.iload d3_131 rfl ?_
      refine W.aloadN d3_133 rfl rfl ?_
      refine W.getfield 0 d3_134 (hw _ (wd 10 rfl)) rfl rfl ?_
      refine W.icmp_lt d3_137 (fun h137 => ?_) (fun h => False.elim (by revert h; decide))
      refine W.iinc (-1) d3_149 rfl rfl ?_
      refine W.goto d3_152 ?_
      refine W.iload d3_26 rfl ?_
      refine W.if_lt d3_28 (fun h => False.elim (by revert h; decide)) (fun h28 => ?_)
      refine W.iconst 0 d3_31 rfl ?_
      refine W.istore d3_32 rfl ?_
      refine W.iload d3_34 rfl ?_
      refine W.istore d3_36 rfl ?_
      show WB _ l Z n m3 38 [(.val (.ref 0)), (.val (.ref 1)), (.val (.ref 2)), (.val (.long (((((((((((((0 : Int64) <<< ((1 : Int32) &&& 0x3f).toInt64) ||| ((XT.ushrL (Int64.ofNat t1.1) (3 - 1)) &&& 1)) <<< ((1 : Int32) &&& 0x3f).toInt64) ||| ((XT.ushrL (Int64.ofNat t2.1) (3 - 1)) &&& 1)) <<< ((1 : Int32) &&& 0x3f).toInt64) ||| ((XT.ushrL (Int64.ofNat t3.1) (3 - 1)) &&& 1)) <<< ((1 : Int32) &&& 0x3f).toInt64) ||| ((XT.ushrL (Int64.ofNat t1.1) ((3 - 1) + (-1))) &&& 1)) <<< ((1 : Int32) &&& 0x3f).toInt64) ||| ((XT.ushrL (Int64.ofNat t2.1) ((3 - 1) + (-1))) &&& 1)) <<< ((1 : Int32) &&& 0x3f).toInt64) ||| ((XT.ushrL (Int64.ofNat t3.1) ((3 - 1) + (-1))) &&& 1)))), .second, (.val (.int ((((((0 + 1) + 1) + 1) + 1) + 1) + 1))), (.val (.int (0))), (.val (.int (0))), (.val (.int (((3 - 1) + (-1)) + (-1)))), (.val (.int (0))), (.val (.int (0))), (.val (.int (((0 + 1) + 1) + 1))), (.val (.long ((XT.ushrL (Int64.ofNat t3.1) ((3 - 1) + (-1))) &&& 1))), .second] [] [.inl ("com/example/reshelve/reshelve/service/sort/ZCurve", [(("com/example/reshelve/reshelve/service/sort/ZCurve", "dimensions", "I"), (.int (3))), (("com/example/reshelve/reshelve/service/sort/ZCurve", "bits", "I"), (.int (3))), (("com/example/reshelve/reshelve/service/sort/ZCurve", "words", "I"), (.int (1)))]), .inr (.long, [(.long (Int64.ofNat t1.1)), (.long (Int64.ofNat t2.1)), (.long (Int64.ofNat t3.1))]), .inr (.long, [(.long (0))])] _ _ _
      refine W.iconst 0 d3_38 rfl ?_
      refine W.istore d3_39 rfl ?_
      show W l Z n m3 41 [(.val (.ref 0)), (.val (.ref 1)), (.val (.ref 2)), (.val (.long (((((((((((((0 : Int64) <<< ((1 : Int32) &&& 0x3f).toInt64) ||| ((XT.ushrL (Int64.ofNat t1.1) (3 - 1)) &&& 1)) <<< ((1 : Int32) &&& 0x3f).toInt64) ||| ((XT.ushrL (Int64.ofNat t2.1) (3 - 1)) &&& 1)) <<< ((1 : Int32) &&& 0x3f).toInt64) ||| ((XT.ushrL (Int64.ofNat t3.1) (3 - 1)) &&& 1)) <<< ((1 : Int32) &&& 0x3f).toInt64) ||| ((XT.ushrL (Int64.ofNat t1.1) ((3 - 1) + (-1))) &&& 1)) <<< ((1 : Int32) &&& 0x3f).toInt64) ||| ((XT.ushrL (Int64.ofNat t2.1) ((3 - 1) + (-1))) &&& 1)) <<< ((1 : Int32) &&& 0x3f).toInt64) ||| ((XT.ushrL (Int64.ofNat t3.1) ((3 - 1) + (-1))) &&& 1)))), .second, (.val (.int ((((((0 + 1) + 1) + 1) + 1) + 1) + 1))), (.val (.int (0))), (.val (.int (0))), (.val (.int (((3 - 1) + (-1)) + (-1)))), (.val (.int (0))), (.val (.int (0))), (.val (.int (0))), (.val (.long ((XT.ushrL (Int64.ofNat t3.1) ((3 - 1) + (-1))) &&& 1))), .second] [] [.inl ("com/example/reshelve/reshelve/service/sort/ZCurve", [(("com/example/reshelve/reshelve/service/sort/ZCurve", "dimensions", "I"), (.int (3))), (("com/example/reshelve/reshelve/service/sort/ZCurve", "bits", "I"), (.int (3))), (("com/example/reshelve/reshelve/service/sort/ZCurve", "words", "I"), (.int (1)))]), .inr (.long, [(.long (Int64.ofNat t1.1)), (.long (Int64.ofNat t2.1)), (.long (Int64.ofNat t3.1))]), .inr (.long, [(.long (0))])] _ _ _
      refine W.iload d3_41 rfl ?_
      refine W.aloadN d3_43 rfl rfl ?_
      refine W.getfield 0 d3_44 (hw _ (wd 10 rfl)) rfl rfl ?_
      refine W.icmp_ge d3_47 (fun h => False.elim (by revert h; decide)) (fun h47 => ?_)
      refine W.aloadN d3_50 rfl rfl ?_
      refine W.iload d3_51 rfl ?_
      refine W.laload (i := 0) d3_53 rfl ⟨by decide, by decide⟩ rfl ?_
      refine W.iload d3_54 rfl ?_
      refine W.lushr d3_56 ?_
      refine W.lconst 1 d3_57 rfl ?_
      refine W.land d3_58 ?_
      refine W.lstore d3_59 rfl ?_
      refine W.lloadN d3_61 rfl ?_
      refine W.iconst 1 d3_62 rfl ?_
      refine W.lshl d3_63 ?_
      refine W.lload d3_64 rfl ?_
      refine W.lor d3_66 ?_
      refine W.lstoreN d3_67 rfl ?_
      refine W.iinc 1 d3_68 rfl rfl ?_
      show WB _ l Z n m3 71 [(.val (.ref 0)), (.val (.ref 1)), (.val (.ref 2)), (.val (.long (((((((((((((((0 : Int64) <<< ((1 : Int32) &&& 0x3f).toInt64) ||| ((XT.ushrL (Int64.ofNat t1.1) (3 - 1)) &&& 1)) <<< ((1 : Int32) &&& 0x3f).toInt64) ||| ((XT.ushrL (Int64.ofNat t2.1) (3 - 1)) &&& 1)) <<< ((1 : Int32) &&& 0x3f).toInt64) ||| ((XT.ushrL (Int64.ofNat t3.1) (3 - 1)) &&& 1)) <<< ((1 : Int32) &&& 0x3f).toInt64) ||| ((XT.ushrL (Int64.ofNat t1.1) ((3 - 1) + (-1))) &&& 1)) <<< ((1 : Int32) &&& 0x3f).toInt64) ||| ((XT.ushrL (Int64.ofNat t2.1) ((3 - 1) + (-1))) &&& 1)) <<< ((1 : Int32) &&& 0x3f).toInt64) ||| ((XT.ushrL (Int64.ofNat t3.1) ((3 - 1) + (-1))) &&& 1)) <<< ((1 : Int32) &&& 0x3f).toInt64) ||| ((XT.ushrL (Int64.ofNat t1.1) (((3 - 1) + (-1)) + (-1))) &&& 1)))), .second, (.val (.int (((((((0 + 1) + 1) + 1) + 1) + 1) + 1) + 1))), (.val (.int (0))), (.val (.int (0))), (.val (.int (((3 - 1) + (-1)) + (-1)))), (.val (.int (0))), (.val (.int (0))), (.val (.int (0))), (.val (.long ((XT.ushrL (Int64.ofNat t1.1) (((3 - 1) + (-1)) + (-1))) &&& 1))), .second] [] [.inl ("com/example/reshelve/reshelve/service/sort/ZCurve", [(("com/example/reshelve/reshelve/service/sort/ZCurve", "dimensions", "I"), (.int (3))), (("com/example/reshelve/reshelve/service/sort/ZCurve", "bits", "I"), (.int (3))), (("com/example/reshelve/reshelve/service/sort/ZCurve", "words", "I"), (.int (1)))]), .inr (.long, [(.long (Int64.ofNat t1.1)), (.long (Int64.ofNat t2.1)), (.long (Int64.ofNat t3.1))]), .inr (.long, [(.long (0))])] _ _ _
      refine W.iload d3_71 rfl ?_
      refine W.bipush 64 d3_73 rfl ?_
      refine W.icmp_ne d3_75 (fun h75 => ?_) (fun h => False.elim (by revert h; decide))
      refine W.iload d3_89 rfl ?_
      refine W.lload d3_91 rfl ?_
      refine W.l2i d3_93 ?_
      refine W.iadd d3_94 ?_
      refine W.istore d3_95 rfl ?_
      refine W.iload d3_97 rfl ?_
      refine W.iconst 1 d3_99 rfl ?_
      refine W.iadd d3_100 ?_
      refine W.aloadN d3_101 rfl rfl ?_
      refine W.getfield 0 d3_102 (hw _ (wd 10 rfl)) rfl rfl ?_
      refine W.icmp_ne d3_105 (fun h105 => ?_) (fun h => False.elim (by revert h; decide))
      refine W.iload d3_112 rfl ?_
      refine W.iconst 1 d3_114 rfl ?_
      refine W.iadd d3_115 ?_
      refine W.istore d3_116 rfl ?_
      refine W.iinc 1 d3_118 rfl rfl ?_
      refine W.goto d3_121 ?_
      show W l Z n m3 41 [(.val (.ref 0)), (.val (.ref 1)), (.val (.ref 2)), (.val (.long (((((((((((((((0 : Int64) <<< ((1 : Int32) &&& 0x3f).toInt64) ||| ((XT.ushrL (Int64.ofNat t1.1) (3 - 1)) &&& 1)) <<< ((1 : Int32) &&& 0x3f).toInt64) ||| ((XT.ushrL (Int64.ofNat t2.1) (3 - 1)) &&& 1)) <<< ((1 : Int32) &&& 0x3f).toInt64) ||| ((XT.ushrL (Int64.ofNat t3.1) (3 - 1)) &&& 1)) <<< ((1 : Int32) &&& 0x3f).toInt64) ||| ((XT.ushrL (Int64.ofNat t1.1) ((3 - 1) + (-1))) &&& 1)) <<< ((1 : Int32) &&& 0x3f).toInt64) ||| ((XT.ushrL (Int64.ofNat t2.1) ((3 - 1) + (-1))) &&& 1)) <<< ((1 : Int32) &&& 0x3f).toInt64) ||| ((XT.ushrL (Int64.ofNat t3.1) ((3 - 1) + (-1))) &&& 1)) <<< ((1 : Int32) &&& 0x3f).toInt64) ||| ((XT.ushrL (Int64.ofNat t1.1) (((3 - 1) + (-1)) + (-1))) &&& 1)))), .second, (.val (.int (((((((0 + 1) + 1) + 1) + 1) + 1) + 1) + 1))), (.val (.int (0))), (.val (.int (0))), (.val (.int (((3 - 1) + (-1)) + (-1)))), (.val (.int (0 + (((XT.ushrL (Int64.ofNat t1.1) (((3 - 1) + (-1)) + (-1))) &&& 1).toInt32)))), (.val (.int (0 + 1))), (.val (.int (0 + 1))), (.val (.long ((XT.ushrL (Int64.ofNat t1.1) (((3 - 1) + (-1)) + (-1))) &&& 1))), .second] [] [.inl ("com/example/reshelve/reshelve/service/sort/ZCurve", [(("com/example/reshelve/reshelve/service/sort/ZCurve", "dimensions", "I"), (.int (3))), (("com/example/reshelve/reshelve/service/sort/ZCurve", "bits", "I"), (.int (3))), (("com/example/reshelve/reshelve/service/sort/ZCurve", "words", "I"), (.int (1)))]), .inr (.long, [(.long (Int64.ofNat t1.1)), (.long (Int64.ofNat t2.1)), (.long (Int64.ofNat t3.1))]), .inr (.long, [(.long (0))])] _ _ _
      refine W.iload d3_41 rfl ?_
      refine W.aloadN d3_43 rfl rfl ?_
      refine W.getfield 0 d3_44 (hw _ (wd 10 rfl)) rfl rfl ?_
      refine W.icmp_ge d3_47 (fun h => False.elim (by revert h; decide)) (fun h47 => ?_)
      refine W.aloadN d3_50 rfl rfl ?_
      refine W.iload d3_51 rfl ?_
      refine W.laload (i := 1) d3_53 rfl ⟨by decide, by decide⟩ rfl ?_
      refine W.iload d3_54 rfl ?_
      refine W.lushr d3_56 ?_
      refine W.lconst 1 d3_57 rfl ?_
      refine W.land d3_58 ?_
      refine W.lstore d3_59 rfl ?_
      show WB _ l Z n m3 61 [(.val (.ref 0)), (.val (.ref 1)), (.val (.ref 2)), (.val (.long (((((((((((((((0 : Int64) <<< ((1 : Int32) &&& 0x3f).toInt64) ||| ((XT.ushrL (Int64.ofNat t1.1) (3 - 1)) &&& 1)) <<< ((1 : Int32) &&& 0x3f).toInt64) ||| ((XT.ushrL (Int64.ofNat t2.1) (3 - 1)) &&& 1)) <<< ((1 : Int32) &&& 0x3f).toInt64) ||| ((XT.ushrL (Int64.ofNat t3.1) (3 - 1)) &&& 1)) <<< ((1 : Int32) &&& 0x3f).toInt64) ||| ((XT.ushrL (Int64.ofNat t1.1) ((3 - 1) + (-1))) &&& 1)) <<< ((1 : Int32) &&& 0x3f).toInt64) ||| ((XT.ushrL (Int64.ofNat t2.1) ((3 - 1) + (-1))) &&& 1)) <<< ((1 : Int32) &&& 0x3f).toInt64) ||| ((XT.ushrL (Int64.ofNat t3.1) ((3 - 1) + (-1))) &&& 1)) <<< ((1 : Int32) &&& 0x3f).toInt64) ||| ((XT.ushrL (Int64.ofNat t1.1) (((3 - 1) + (-1)) + (-1))) &&& 1)))), .second, (.val (.int (((((((0 + 1) + 1) + 1) + 1) + 1) + 1) + 1))), (.val (.int (0))), (.val (.int (0))), (.val (.int (((3 - 1) + (-1)) + (-1)))), (.val (.int (0 + (((XT.ushrL (Int64.ofNat t1.1) (((3 - 1) + (-1)) + (-1))) &&& 1).toInt32)))), (.val (.int (0 + 1))), (.val (.int (0 + 1))), (.val (.long ((XT.ushrL (Int64.ofNat t2.1) (((3 - 1) + (-1)) + (-1))) &&& 1))), .second] [] [.inl ("com/example/reshelve/reshelve/service/sort/ZCurve", [(("com/example/reshelve/reshelve/service/sort/ZCurve", "dimensions", "I"), (.int (3))), (("com/example/reshelve/reshelve/service/sort/ZCurve", "bits", "I"), (.int (3))), (("com/example/reshelve/reshelve/service/sort/ZCurve", "words", "I"), (.int (1)))]), .inr (.long, [(.long (Int64.ofNat t1.1)), (.long (Int64.ofNat t2.1)), (.long (Int64.ofNat t3.1))]), .inr (.long, [(.long (0))])] _ _ _
      refine W.lloadN d3_61 rfl ?_
      refine W.iconst 1 d3_62 rfl ?_
      refine W.lshl d3_63 ?_
      refine W.lload d3_64 rfl ?_
      refine W.lor d3_66 ?_
      refine W.lstoreN d3_67 rfl ?_
      refine W.iinc 1 d3_68 rfl rfl ?_
      refine W.iload d3_71 rfl ?_
      refine W.bipush 64 d3_73 rfl ?_
      refine W.icmp_ne d3_75 (fun h75 => ?_) (fun h => False.elim (by revert h; decide))
      refine W.iload d3_89 rfl ?_
      refine W.lload d3_91 rfl ?_
      refine W.l2i d3_93 ?_
      refine W.iadd d3_94 ?_
      refine W.istore d3_95 rfl ?_
      refine W.iload d3_97 rfl ?_
      refine W.iconst 1 d3_99 rfl ?_
      refine W.iadd d3_100 ?_
      refine W.aloadN d3_101 rfl rfl ?_
      refine W.getfield 0 d3_102 (hw _ (wd 10 rfl)) rfl rfl ?_
      refine W.icmp_ne d3_105 (fun h105 => ?_) (fun h => False.elim (by revert h; decide))
      refine W.iload d3_112 rfl ?_
      refine W.iconst 1 d3_114 rfl ?_
      refine W.iadd d3_115 ?_
      refine W.istore d3_116 rfl ?_
      show WB _ l Z n m3 118 [(.val (.ref 0)), (.val (.ref 1)), (.val (.ref 2)), (.val (.long (((((((((((((((((0 : Int64) <<< ((1 : Int32) &&& 0x3f).toInt64) ||| ((XT.ushrL (Int64.ofNat t1.1) (3 - 1)) &&& 1)) <<< ((1 : Int32) &&& 0x3f).toInt64) ||| ((XT.ushrL (Int64.ofNat t2.1) (3 - 1)) &&& 1)) <<< ((1 : Int32) &&& 0x3f).toInt64) ||| ((XT.ushrL (Int64.ofNat t3.1) (3 - 1)) &&& 1)) <<< ((1 : Int32) &&& 0x3f).toInt64) ||| ((XT.ushrL (Int64.ofNat t1.1) ((3 - 1) + (-1))) &&& 1)) <<< ((1 : Int32) &&& 0x3f).toInt64) ||| ((XT.ushrL (Int64.ofNat t2.1) ((3 - 1) + (-1))) &&& 1)) <<< ((1 : Int32) &&& 0x3f).toInt64) ||| ((XT.ushrL (Int64.ofNat t3.1) ((3 - 1) + (-1))) &&& 1)) <<< ((1 : Int32) &&& 0x3f).toInt64) ||| ((XT.ushrL (Int64.ofNat t1.1) (((3 - 1) + (-1)) + (-1))) &&& 1)) <<< ((1 : Int32) &&& 0x3f).toInt64) ||| ((XT.ushrL (Int64.ofNat t2.1) (((3 - 1) + (-1)) + (-1))) &&& 1)))), .second, (.val (.int ((((((((0 + 1) + 1) + 1) + 1) + 1) + 1) + 1) + 1))), (.val (.int (0))), (.val (.int (0))), (.val (.int (((3 - 1) + (-1)) + (-1)))), (.val (.int ((0 + (((XT.ushrL (Int64.ofNat t1.1) (((3 - 1) + (-1)) + (-1))) &&& 1).toInt32)) + (((XT.ushrL (Int64.ofNat t2.1) (((3 - 1) + (-1)) + (-1))) &&& 1).toInt32)))), (.val (.int ((0 + 1) + 1))), (.val (.int (0 + 1))), (.val (.long ((XT.ushrL (Int64.ofNat t2.1) (((3 - 1) + (-1)) + (-1))) &&& 1))), .second] [] [.inl ("com/example/reshelve/reshelve/service/sort/ZCurve", [(("com/example/reshelve/reshelve/service/sort/ZCurve", "dimensions", "I"), (.int (3))), (("com/example/reshelve/reshelve/service/sort/ZCurve", "bits", "I"), (.int (3))), (("com/example/reshelve/reshelve/service/sort/ZCurve", "words", "I"), (.int (1)))]), .inr (.long, [(.long (Int64.ofNat t1.1)), (.long (Int64.ofNat t2.1)), (.long (Int64.ofNat t3.1))]), .inr (.long, [(.long (0))])] _ _ _
      refine W.iinc 1 d3_118 rfl rfl ?_
      refine W.goto d3_121 ?_
      show W l Z n m3 41 [(.val (.ref 0)), (.val (.ref 1)), (.val (.ref 2)), (.val (.long (((((((((((((((((0 : Int64) <<< ((1 : Int32) &&& 0x3f).toInt64) ||| ((XT.ushrL (Int64.ofNat t1.1) (3 - 1)) &&& 1)) <<< ((1 : Int32) &&& 0x3f).toInt64) ||| ((XT.ushrL (Int64.ofNat t2.1) (3 - 1)) &&& 1)) <<< ((1 : Int32) &&& 0x3f).toInt64) ||| ((XT.ushrL (Int64.ofNat t3.1) (3 - 1)) &&& 1)) <<< ((1 : Int32) &&& 0x3f).toInt64) ||| ((XT.ushrL (Int64.ofNat t1.1) ((3 - 1) + (-1))) &&& 1)) <<< ((1 : Int32) &&& 0x3f).toInt64) ||| ((XT.ushrL (Int64.ofNat t2.1) ((3 - 1) + (-1))) &&& 1)) <<< ((1 : Int32) &&& 0x3f).toInt64) ||| ((XT.ushrL (Int64.ofNat t3.1) ((3 - 1) + (-1))) &&& 1)) <<< ((1 : Int32) &&& 0x3f).toInt64) ||| ((XT.ushrL (Int64.ofNat t1.1) (((3 - 1) + (-1)) + (-1))) &&& 1)) <<< ((1 : Int32) &&& 0x3f).toInt64) ||| ((XT.ushrL (Int64.ofNat t2.1) (((3 - 1) + (-1)) + (-1))) &&& 1)))), .second, (.val (.int ((((((((0 + 1) + 1) + 1) + 1) + 1) + 1) + 1) + 1))), (.val (.int (0))), (.val (.int (0))), (.val (.int (((3 - 1) + (-1)) + (-1)))), (.val (.int ((0 + (((XT.ushrL (Int64.ofNat t1.1) (((3 - 1) + (-1)) + (-1))) &&& 1).toInt32)) + (((XT.ushrL (Int64.ofNat t2.1) (((3 - 1) + (-1)) + (-1))) &&& 1).toInt32)))), (.val (.int ((0 + 1) + 1))), (.val (.int ((0 + 1) + 1))), (.val (.long ((XT.ushrL (Int64.ofNat t2.1) (((3 - 1) + (-1)) + (-1))) &&& 1))), .second] [] [.inl ("com/example/reshelve/reshelve/service/sort/ZCurve", [(("com/example/reshelve/reshelve/service/sort/ZCurve", "dimensions", "I"), (.int (3))), (("com/example/reshelve/reshelve/service/sort/ZCurve", "bits", "I"), (.int (3))), (("com/example/reshelve/reshelve/service/sort/ZCurve", "words", "I"), (.int (1)))]), .inr (.long, [(.long (Int64.ofNat t1.1)), (.long (Int64.ofNat t2.1)), (.long (Int64.ofNat t3.1))]), .inr (.long, [(.long (0))])] _ _ _
      refine W.iload d3_41 rfl ?_
      refine W.aloadN d3_43 rfl rfl ?_
      refine W.getfield 0 d3_44 (hw _ (wd 10 rfl)) rfl rfl ?_
      refine W.icmp_ge d3_47 (fun h => False.elim (by revert h; decide)) (fun h47 => ?_)
      refine W.aloadN d3_50 rfl rfl ?_
      refine W.iload d3_51 rfl ?_
      refine W.laload (i := 2) d3_53 rfl ⟨by decide, by decide⟩ rfl ?_
      refine W.iload d3_54 rfl ?_
      refine W.lushr d3_56 ?_
      refine W.lconst 1 d3_57 rfl ?_
      refine W.land d3_58 ?_
      refine W.lstore d3_59 rfl ?_
      refine W.lloadN d3_61 rfl ?_
      refine W.iconst 1 d3_62 rfl ?_
      refine W.lshl d3_63 ?_
      refine W.lload d3_64 rfl ?_
      refine W.lor d3_66 ?_
      refine W.lstoreN d3_67 rfl ?_
      refine W.iinc 1 d3_68 rfl rfl ?_
      show WB _ l Z n m3 71 [(.val (.ref 0)), (.val (.ref 1)), (.val (.ref 2)), (.val (.long (((((((((((((((((((0 : Int64) <<< ((1 : Int32) &&& 0x3f).toInt64) ||| ((XT.ushrL (Int64.ofNat t1.1) (3 - 1)) &&& 1)) <<< ((1 : Int32) &&& 0x3f).toInt64) ||| ((XT.ushrL (Int64.ofNat t2.1) (3 - 1)) &&& 1)) <<< ((1 : Int32) &&& 0x3f).toInt64) ||| ((XT.ushrL (Int64.ofNat t3.1) (3 - 1)) &&& 1)) <<< ((1 : Int32) &&& 0x3f).toInt64) ||| ((XT.ushrL (Int64.ofNat t1.1) ((3 - 1) + (-1))) &&& 1)) <<< ((1 : Int32) &&& 0x3f).toInt64) ||| ((XT.ushrL (Int64.ofNat t2.1) ((3 - 1) + (-1))) &&& 1)) <<< ((1 : Int32) &&& 0x3f).toInt64) ||| ((XT.ushrL (Int64.ofNat t3.1) ((3 - 1) + (-1))) &&& 1)) <<< ((1 : Int32) &&& 0x3f).toInt64) ||| ((XT.ushrL (Int64.ofNat t1.1) (((3 - 1) + (-1)) + (-1))) &&& 1)) <<< ((1 : Int32) &&& 0x3f).toInt64) ||| ((XT.ushrL (Int64.ofNat t2.1) (((3 - 1) + (-1)) + (-1))) &&& 1)) <<< ((1 : Int32) &&& 0x3f).toInt64) ||| ((XT.ushrL (Int64.ofNat t3.1) (((3 - 1) + (-1)) + (-1))) &&& 1)))), .second, (.val (.int (((((((((0 + 1) + 1) + 1) + 1) + 1) + 1) + 1) + 1) + 1))), (.val (.int (0))), (.val (.int (0))), (.val (.int (((3 - 1) + (-1)) + (-1)))), (.val (.int ((0 + (((XT.ushrL (Int64.ofNat t1.1) (((3 - 1) + (-1)) + (-1))) &&& 1).toInt32)) + (((XT.ushrL (Int64.ofNat t2.1) (((3 - 1) + (-1)) + (-1))) &&& 1).toInt32)))), (.val (.int ((0 + 1) + 1))), (.val (.int ((0 + 1) + 1))), (.val (.long ((XT.ushrL (Int64.ofNat t3.1) (((3 - 1) + (-1)) + (-1))) &&& 1))), .second] [] [.inl ("com/example/reshelve/reshelve/service/sort/ZCurve", [(("com/example/reshelve/reshelve/service/sort/ZCurve", "dimensions", "I"), (.int (3))), (("com/example/reshelve/reshelve/service/sort/ZCurve", "bits", "I"), (.int (3))), (("com/example/reshelve/reshelve/service/sort/ZCurve", "words", "I"), (.int (1)))]), .inr (.long, [(.long (Int64.ofNat t1.1)), (.long (Int64.ofNat t2.1)), (.long (Int64.ofNat t3.1))]), .inr (.long, [(.long (0))])] _ _ _
      refine W.iload d3_71 rfl ?_
      refine W.bipush 64 d3_73 rfl ?_
      refine W.icmp_ne d3_75 (fun h75 => ?_) (fun h => False.elim (by revert h; decide))
      refine W.iload d3_89 rfl ?_
      refine W.lload d3_91 rfl ?_
      refine W.l2i d3_93 ?_
      refine W.iadd d3_94 ?_
      refine W.istore d3_95 rfl ?_
      refine W.iload d3_97 rfl ?_
      refine W.iconst 1 d3_99 rfl ?_
      refine W.iadd d3_100 ?_
      refine W.aloadN d3_101 rfl rfl ?_
      refine W.getfield 0 d3_102 (hw _ (wd 10 rfl)) rfl rfl ?_
      refine W.icmp_ne d3_105 (fun h => False.elim (by revert h; decide)) (fun h105 => ?_)
      refine W.iconst 0 d3_108 rfl ?_
      refine W.goto d3_109 ?_
      refine W.istore d3_116 rfl ?_
      refine W.iinc 1 d3_118 rfl rfl ?_
      refine W.goto d3_121 ?_
      show W l Z n m3 41 [(.val (.ref 0)), (.val (.ref 1)), (.val (.ref 2)), (.val (.long (((((((((((((((((((0 : Int64) <<< ((1 : Int32) &&& 0x3f).toInt64) ||| ((XT.ushrL (Int64.ofNat t1.1) (3 - 1)) &&& 1)) <<< ((1 : Int32) &&& 0x3f).toInt64) ||| ((XT.ushrL (Int64.ofNat t2.1) (3 - 1)) &&& 1)) <<< ((1 : Int32) &&& 0x3f).toInt64) ||| ((XT.ushrL (Int64.ofNat t3.1) (3 - 1)) &&& 1)) <<< ((1 : Int32) &&& 0x3f).toInt64) ||| ((XT.ushrL (Int64.ofNat t1.1) ((3 - 1) + (-1))) &&& 1)) <<< ((1 : Int32) &&& 0x3f).toInt64) ||| ((XT.ushrL (Int64.ofNat t2.1) ((3 - 1) + (-1))) &&& 1)) <<< ((1 : Int32) &&& 0x3f).toInt64) ||| ((XT.ushrL (Int64.ofNat t3.1) ((3 - 1) + (-1))) &&& 1)) <<< ((1 : Int32) &&& 0x3f).toInt64) ||| ((XT.ushrL (Int64.ofNat t1.1) (((3 - 1) + (-1)) + (-1))) &&& 1)) <<< ((1 : Int32) &&& 0x3f).toInt64) ||| ((XT.ushrL (Int64.ofNat t2.1) (((3 - 1) + (-1)) + (-1))) &&& 1)) <<< ((1 : Int32) &&& 0x3f).toInt64) ||| ((XT.ushrL (Int64.ofNat t3.1) (((3 - 1) + (-1)) + (-1))) &&& 1)))), .second, (.val (.int (((((((((0 + 1) + 1) + 1) + 1) + 1) + 1) + 1) + 1) + 1))), (.val (.int (0))), (.val (.int (0))), (.val (.int (((3 - 1) + (-1)) + (-1)))), (.val (.int (((0 + (((XT.ushrL (Int64.ofNat t1.1) (((3 - 1) + (-1)) + (-1))) &&& 1).toInt32)) + (((XT.ushrL (Int64.ofNat t2.1) (((3 - 1) + (-1)) + (-1))) &&& 1).toInt32)) + (((XT.ushrL (Int64.ofNat t3.1) (((3 - 1) + (-1)) + (-1))) &&& 1).toInt32)))), (.val (.int (0))), (.val (.int (((0 + 1) + 1) + 1))), (.val (.long ((XT.ushrL (Int64.ofNat t3.1) (((3 - 1) + (-1)) + (-1))) &&& 1))), .second] [] [.inl ("com/example/reshelve/reshelve/service/sort/ZCurve", [(("com/example/reshelve/reshelve/service/sort/ZCurve", "dimensions", "I"), (.int (3))), (("com/example/reshelve/reshelve/service/sort/ZCurve", "bits", "I"), (.int (3))), (("com/example/reshelve/reshelve/service/sort/ZCurve", "words", "I"), (.int (1)))]), .inr (.long, [(.long (Int64.ofNat t1.1)), (.long (Int64.ofNat t2.1)), (.long (Int64.ofNat t3.1))]), .inr (.long, [(.long (0))])] _ _ _
      refine W.iload d3_41 rfl ?_
      refine W.aloadN d3_43 rfl rfl ?_
      refine W.getfield 0 d3_44 (hw _ (wd 10 rfl)) rfl rfl ?_
      refine W.icmp_ge d3_47 (fun h47 => ?_) (fun h => False.elim (by revert h; decide))
      refine W.iload d3_124 rfl ?_
      refine W.iload d3_126 rfl ?_
      refine W.iadd d3_128 ?_
      refine W.istore d3_129 rfl ?_
      show WB _ l Z n m3 131 [(.val (.ref 0)), (.val (.ref 1)), (.val (.ref 2)), (.val (.long (((((((((((((((((((0 : Int64) <<< ((1 : Int32) &&& 0x3f).toInt64) ||| ((XT.ushrL (Int64.ofNat t1.1) (3 - 1)) &&& 1)) <<< ((1 : Int32) &&& 0x3f).toInt64) ||| ((XT.ushrL (Int64.ofNat t2.1) (3 - 1)) &&& 1)) <<< ((1 : Int32) &&& 0x3f).toInt64) ||| ((XT.ushrL (Int64.ofNat t3.1) (3 - 1)) &&& 1)) <<< ((1 : Int32) &&& 0x3f).toInt64) ||| ((XT.ushrL (Int64.ofNat t1.1) ((3 - 1) + (-1))) &&& 1)) <<< ((1 : Int32) &&& 0x3f).toInt64) ||| ((XT.ushrL (Int64.ofNat t2.1) ((3 - 1) + (-1))) &&& 1)) <<< ((1 : Int32) &&& 0x3f).toInt64) ||| ((XT.ushrL (Int64.ofNat t3.1) ((3 - 1) + (-1))) &&& 1)) <<< ((1 : Int32) &&& 0x3f).toInt64) ||| ((XT.ushrL (Int64.ofNat t1.1) (((3 - 1) + (-1)) + (-1))) &&& 1)) <<< ((1 : Int32) &&& 0x3f).toInt64) ||| ((XT.ushrL (Int64.ofNat t2.1) (((3 - 1) + (-1)) + (-1))) &&& 1)) <<< ((1 : Int32) &&& 0x3f).toInt64) ||| ((XT.ushrL (Int64.ofNat t3.1) (((3 - 1) + (-1)) + (-1))) &&& 1)))), .second, (.val (.int (((((((((0 + 1) + 1) + 1) + 1) + 1) + 1) + 1) + 1) + 1))), (.val (.int (0))), (.val (.int (0 + (((0 + (((XT.ushrL (Int64.ofNat t1.1) (((3 - 1) + (-1)) + (-1))) &&& 1).toInt32)) + (((XT.ushrL (Int64.ofNat t2.1) (((3 - 1) + (-1)) + (-1))) &&& 1).toInt32)) + (((XT.ushrL (Int64.ofNat t3.1) (((3 - 1) + (-1)) + (-1))) &&& 1).toInt32))))), (.val (.int (((3 - 1) + (-1)) + (-1)))), (.val (.int (((0 + (((XT.ushrL (Int64.ofNat t1.1) (((3 - 1) + (-1)) + (-1))) &&& 1).toInt32)) + (((XT.ushrL (Int64.ofNat t2.1) (((3 - 1) + (-1)) + (-1))) &&& 1).toInt32)) + (((XT.ushrL (Int64.ofNat t3.1) (((3 - 1) + (-1)) + (-1))) &&& 1).toInt32)))), (.val (.int (0))), (.val (.int (((0 + 1) + 1) + 1))), (.val (.long ((XT.ushrL (Int64.ofNat t3.1) (((3 - 1) + (-1)) + (-1))) &&& 1))), .second] [] [.inl ("com/example/reshelve/reshelve/service/sort/ZCurve", [(("com/example/reshelve/reshelve/service/sort/ZCurve", "dimensions", "I"), (.int (3))), (("com/example/reshelve/reshelve/service/sort/ZCurve", "bits", "I"), (.int (3))), (("com/example/reshelve/reshelve/service/sort/ZCurve", "words", "I"), (.int (1)))]), .inr (.long, [(.long (Int64.ofNat t1.1)), (.long (Int64.ofNat t2.1)), (.long (Int64.ofNat t3.1))]), .inr (.long, [(.long (0))])] _ _ _
      refine W.iload d3_131 rfl ?_
      refine W.aloadN d3_133 rfl rfl ?_
      refine W.getfield 0 d3_134 (hw _ (wd 10 rfl)) rfl rfl ?_
      refine W.icmp_lt d3_137 (fun h137 => ?_) (fun h137 => ?_)
      · refine W.iinc (-1) d3_149 rfl rfl ?_
        refine W.goto d3_152 ?_
        refine W.iload d3_26 rfl ?_
        refine W.if_lt d3_28 (fun h28 => ?_) (fun h => False.elim (by revert h; decide))
        refine W.iload d3_155 rfl ?_
        refine W.if_le d3_157 (fun h => False.elim (by revert h; decide)) (fun h157 => ?_)
        refine W.aloadN d3_160 rfl rfl ?_
        refine W.iload d3_161 rfl ?_
        refine W.lloadN d3_163 rfl ?_
        refine W.bipush 64 d3_164 rfl ?_
        refine W.iload d3_166 rfl ?_
        refine W.isub d3_168 ?_
        refine W.lshl d3_169 ?_
        refine W.lastore (i := 0) d3_170 rfl ⟨by decide, by decide⟩ (by simp) ?_
        refine W.aloadN d3_171 rfl rfl ?_
        exact W.areturn d3_172 rfl rfl rfl (by decide) (by decide) (⟨rfl, by rw [own_k17 t1 t2 t3 q0 q1] <;> rfl⟩)
      · refine W.iload d3_140 rfl ?_
        refine W.aloadN d3_142 rfl rfl ?_
        refine W.getfield 0 d3_143 (hw _ (wd 10 rfl)) rfl rfl ?_
        refine W.isub d3_146 ?_
        refine W.istore d3_147 rfl ?_
        refine W.iinc (-1) d3_149 rfl rfl ?_
        refine W.goto d3_152 ?_
        refine W.iload d3_26 rfl ?_
        refine W.if_lt d3_28 (fun h28 => ?_) (fun h => False.elim (by revert h; decide))
        refine W.iload d3_155 rfl ?_
        refine W.if_le d3_157 (fun h => False.elim (by revert h; decide)) (fun h157 => ?_)
        refine W.aloadN d3_160 rfl rfl ?_
        refine W.iload d3_161 rfl ?_
        refine W.lloadN d3_163 rfl ?_
        refine W.bipush 64 d3_164 rfl ?_
        refine W.iload d3_166 rfl ?_
        refine W.isub d3_168 ?_
        refine W.lshl d3_169 ?_
        refine W.lastore (i := 0) d3_170 rfl ⟨by decide, by decide⟩ (by simp) ?_
        refine W.aloadN d3_171 rfl rfl ?_
        exact W.areturn d3_172 rfl rfl rfl (by decide) (by decide) (⟨rfl, by rw [own_k17 t1 t2 t3 q0 q1] <;> rfl⟩)
    · rw [q1]
      refine W.istore d3_129 rfl ?_
      refine W.iload d3_131 rfl ?_
      refine W.aloadN d3_133 rfl rfl ?_
      refine W.getfield 0 d3_134 (hw _ (wd 10 rfl)) rfl rfl ?_
      refine W.icmp_lt d3_137 (fun h137 => ?_) (fun h => False.elim (by revert h; decide))
      refine W.iinc (-1) d3_149 rfl rfl ?_
      refine W.goto d3_152 ?_
      refine W.iload d3_26 rfl ?_
      refine W.if_lt d3_28 (fun h => False.elim (by revert h; decide)) (fun h28 => ?_)
      refine W.iconst 0 d3_31 rfl ?_
      refine W.istore d3_32 rfl ?_
      refine W.iload d3_34 rfl ?_
      refine W.istore d3_36 rfl ?_
      show WB _ l Z n m3 38 [(.val (.ref 0)), (.val (.ref 1)), (.val (.ref 2)), (.val (.long (((((((((((((0 : Int64) <<< ((1 : Int32) &&& 0x3f).toInt64) ||| ((XT.ushrL (Int64.ofNat t1.1) (3 - 1)) &&& 1)) <<< ((1 : Int32) &&& 0x3f).toInt64) ||| ((XT.ushrL (Int64.ofNat t2.1) (3 - 1)) &&& 1)) <<< ((1 : Int32) &&& 0x3f).toInt64) ||| ((XT.ushrL (Int64.ofNat t3.1) (3 - 1)) &&& 1)) <<< ((1 : Int32) &&& 0x3f).toInt64) ||| ((XT.ushrL (Int64.ofNat t1.1) ((3 - 1) + (-1))) &&& 1)) <<< ((1 : Int32) &&& 0x3f).toInt64) ||| ((XT.ushrL (Int64.ofNat t2.1) ((3 - 1) + (-1))) &&& 1)) <<< ((1 : Int32) &&& 0x3f).toInt64) ||| ((XT.ushrL (Int64.ofNat t3.1) ((3 - 1) + (-1))) &&& 1)))), .second, (.val (.int ((((((0 + 1) + 1) + 1) + 1) + 1) + 1))), (.val (.int (0))), (.val (.int (1))), (.val (.int (((3 - 1) + (-1)) + (-1)))), (.val (.int (0))), (.val (.int (1))), (.val (.int (((0 + 1) + 1) + 1))), (.val (.long ((XT.ushrL (Int64.ofNat t3.1) ((3 - 1) + (-1))) &&& 1))), .second] [] [.inl ("com/example/reshelve/reshelve/service/sort/ZCurve", [(("com/example/reshelve/reshelve/service/sort/ZCurve", "dimensions", "I"), (.int (3))), (("com/example/reshelve/reshelve/service/sort/ZCurve", "bits", "I"), (.int (3))), (("com/example/reshelve/reshelve/service/sort/ZCurve", "words", "I"), (.int (1)))]), .inr (.long, [(.long (Int64.ofNat t1.1)), (.long (Int64.ofNat t2.1)), (.long (Int64.ofNat t3.1))]), .inr (.long, [(.long (0))])] _ _ _
      refine W.iconst 0 d3_38 rfl ?_
      refine W.istore d3_39 rfl ?_
      show W l Z n m3 41 [(.val (.ref 0)), (.val (.ref 1)), (.val (.ref 2)), (.val (.long (((((((((((((0 : Int64) <<< ((1 : Int32) &&& 0x3f).toInt64) ||| ((XT.ushrL (Int64.ofNat t1.1) (3 - 1)) &&& 1)) <<< ((1 : Int32) &&& 0x3f).toInt64) ||| ((XT.ushrL (Int64.ofNat t2.1) (3 - 1)) &&& 1)) <<< ((1 : Int32) &&& 0x3f).toInt64) ||| ((XT.ushrL (Int64.ofNat t3.1) (3 - 1)) &&& 1)) <<< ((1 : Int32) &&& 0x3f).toInt64) ||| ((XT.ushrL (Int64.ofNat t1.1) ((3 - 1) + (-1))) &&& 1)) <<< ((1 : Int32) &&& 0x3f).toInt64) ||| ((XT.ushrL (Int64.ofNat t2.1) ((3 - 1) + (-1))) &&& 1)) <<< ((1 : Int32) &&& 0x3f).toInt64) ||| ((XT.ushrL (Int64.ofNat t3.1) ((3 - 1) + (-1))) &&& 1)))), .second, (.val (.int ((((((0 + 1) + 1) + 1) + 1) + 1) + 1))), (.val (.int (0))), (.val (.int (1))), (.val (.int (((3 - 1) + (-1)) + (-1)))), (.val (.int (0))), (.val (.int (1))), (.val (.int (0))), (.val (.long ((XT.ushrL (Int64.ofNat t3.1) ((3 - 1) + (-1))) &&& 1))), .second] [] [.inl ("com/example/reshelve/reshelve/service/sort/ZCurve", [(("com/example/reshelve/reshelve/service/sort/ZCurve", "dimensions", "I"), (.int (3))), (("com/example/reshelve/reshelve/service/sort/ZCurve", "bits", "I"), (.int (3))), (("com/example/reshelve/reshelve/service/sort/ZCurve", "words", "I"), (.int (1)))]), .inr (.long, [(.long (Int64.ofNat t1.1)), (.long (Int64.ofNat t2.1)), (.long (Int64.ofNat t3.1))]), .inr (.long, [(.long (0))])] _ _ _
      refine W.iload d3_41 rfl ?_
      refine W.aloadN d3_43 rfl rfl ?_
      refine W.getfield 0 d3_44 (hw _ (wd 10 rfl)) rfl rfl ?_
      refine W.icmp_ge d3_47 (fun h => False.elim (by revert h; decide)) (fun h47 => ?_)
      refine W.aloadN d3_50 rfl rfl ?_
      refine W.iload d3_51 rfl ?_
      refine W.laload (i := 1) d3_53 rfl ⟨by decide, by decide⟩ rfl ?_
      refine W.iload d3_54 rfl ?_
      refine W.lushr d3_56 ?_
      refine W.lconst 1 d3_57 rfl ?_
      refine W.land d3_58 ?_
      refine W.lstore d3_59 rfl ?_
      refine W.lloadN d3_61 rfl ?_
      refine W.iconst 1 d3_62 rfl ?_
      refine W.lshl d3_63 ?_
      refine W.lload d3_64 rfl ?_
      refine W.lor d3_66 ?_
      refine W.lstoreN d3_67 rfl ?_
      refine W.iinc 1 d3_68 rfl rfl ?_
      show WB _ l Z n m3 71 [(.val (.ref 0)), (.val (.ref 1)), (.val (.ref 2)), (.val (.long (((((((((((((((0 : Int64) <<< ((1 : Int32) &&& 0x3f).toInt64) ||| ((XT.ushrL (Int64.ofNat t1.1) (3 - 1)) &&& 1)) <<< ((1 : Int32) &&& 0x3f).toInt64) ||| ((XT.ushrL (Int64.ofNat t2.1) (3 - 1)) &&& 1)) <<< ((1 : Int32) &&& 0x3f).toInt64) ||| ((XT.ushrL (Int64.ofNat t3.1) (3 - 1)) &&& 1)) <<< ((1 : Int32) &&& 0x3f).toInt64) ||| ((XT.ushrL (Int64.ofNat t1.1) ((3 - 1) + (-1))) &&& 1)) <<< ((1 : Int32) &&& 0x3f).toInt64) ||| ((XT.ushrL (Int64.ofNat t2.1) ((3 - 1) + (-1))) &&& 1)) <<< ((1 : Int32) &&& 0x3f).toInt64) ||| ((XT.ushrL (Int64.ofNat t3.1) ((3 - 1) + (-1))) &&& 1)) <<< ((1 : Int32) &&& 0x3f).toInt64) ||| ((XT.ushrL (Int64.ofNat t2.1) (((3 - 1) + (-1)) + (-1))) &&& 1)))), .second, (.val (.int (((((((0 + 1) + 1) + 1) + 1) + 1) + 1) + 1))), (.val (.int (0))), (.val (.int (1))), (.val (.int (((3 - 1) + (-1)) + (-1)))), (.val (.int (0))), (.val (.int (1))), (.val (.int (0))), (.val (.long ((XT.ushrL (Int64.ofNat t2.1) (((3 - 1) + (-1)) + (-1))) &&& 1))), .second] [] [.inl ("com/example/reshelve/reshelve/service/sort/ZCurve", [(("com/example/reshelve/reshelve/service/sort/ZCurve", "dimensions", "I"), (.int (3))), (("com/example/reshelve/reshelve/service/sort/ZCurve", "bits", "I"), (.int (3))), (("com/example/reshelve/reshelve/service/sort/ZCurve", "words", "I"), (.int (1)))]), .inr (.long, [(.long (Int64.ofNat t1.1)), (.long (Int64.ofNat t2.1)), (.long (Int64.ofNat t3.1))]), .inr (.long, [(.long (0))])] _ _ _
      refine W.iload d3_71 rfl ?_
      refine W.bipush 64 d3_73 rfl ?_
      refine W.icmp_ne d3_75 (fun h75 => ?_) (fun h => False.elim (by revert h; decide))
      refine W.iload d3_89 rfl ?_
      refine W.lload d3_91 rfl ?_
      refine W.l2i d3_93 ?_
      refine W.iadd d3_94 ?_
      refine W.istore d3_95 rfl ?_
      refine W.iload d3_97 rfl ?_
      refine W.iconst 1 d3_99 rfl ?_
      refine W.iadd d3_100 ?_
      refine W.aloadN d3_101 rfl rfl ?_
      refine W.getfield 0 d3_102 (hw _ (wd 10 rfl)) rfl rfl ?_
      refine W.icmp_ne d3_105 (fun h105 => ?_) (fun h => False.elim (by revert h; decide))
      refine W.iload d3_112 rfl ?_
      refine W.iconst 1 d3_114 rfl ?_
      refine W.iadd d3_115 ?_
      refine W.istore d3_116 rfl ?_
      refine W.iinc 1 d3_118 rfl rfl ?_
      refine W.goto d3_121 ?_
      show W l Z n m3 41 [(.val (.ref 0)), (.val (.ref 1)), (.val (.ref 2)), (.val (.long (((((((((((((((0 : Int64) <<< ((1 : Int32) &&& 0x3f).toInt64) ||| ((XT.ushrL (Int64.ofNat t1.1) (3 - 1)) &&& 1)) <<< ((1 : Int32) &&& 0x3f).toInt64) ||| ((XT.ushrL (Int64.ofNat t2.1) (3 - 1)) &&& 1)) <<< ((1 : Int32) &&& 0x3f).toInt64) ||| ((XT.ushrL (Int64.ofNat t3.1) (3 - 1)) &&& 1)) <<< ((1 : Int32) &&& 0x3f).toInt64) ||| ((XT.ushrL (Int64.ofNat t1.1) ((3 - 1) + (-1))) &&& 1)) <<< ((1 : Int32) &&& 0x3f).toInt64) ||| ((XT.ushrL (Int64.ofNat t2.1) ((3 - 1) + (-1))) &&& 1)) <<< ((1 : Int32) &&& 0x3f).toInt64) ||| ((XT.ushrL (Int64.ofNat t3.1) ((3 - 1) + (-1))) &&& 1)) <<< ((1 : Int32) &&& 0x3f).toInt64) ||| ((XT.ushrL (Int64.ofNat t2.1) (((3 - 1) + (-1)) + (-1))) &&& 1)))), .second, (.val (.int (((((((0 + 1) + 1) + 1) + 1) + 1) + 1) + 1))), (.val (.int (0))), (.val (.int (1))), (.val (.int (((3 - 1) + (-1)) + (-1)))), (.val (.int (0 + (((XT.ushrL (Int64.ofNat t2.1) (((3 - 1) + (-1)) + (-1))) &&& 1).toInt32)))), (.val (.int (1 + 1))), (.val (.int (0 + 1))), (.val (.long ((XT.ushrL (Int64.ofNat t2.1) (((3 - 1) + (-1)) + (-1))) &&& 1))), .second] [] [.inl ("com/example/reshelve/reshelve/service/sort/ZCurve", [(("com/example/reshelve/reshelve/service/sort/ZCurve", "dimensions", "I"), (.int (3))), (("com/example/reshelve/reshelve/service/sort/ZCurve", "bits", "I"), (.int (3))), (("com/example/reshelve/reshelve/service/sort/ZCurve", "words", "I"), (.int (1)))]), .inr (.long, [(.long (Int64.ofNat t1.1)), (.long (Int64.ofNat t2.1)), (.long (Int64.ofNat t3.1))]), .inr (.long, [(.long (0))])] _ _ _
      refine W.iload d3_41 rfl ?_
      refine W.aloadN d3_43 rfl rfl ?_
      refine W.getfield 0 d3_44 (hw _ (wd 10 rfl)) rfl rfl ?_
      refine W.icmp_ge d3_47 (fun h => False.elim (by revert h; decide)) (fun h47 => ?_)
      refine W.aloadN d3_50 rfl rfl ?_
      refine W.iload d3_51 rfl ?_
      refine W.laload (i := 2) d3_53 rfl ⟨by decide, by decide⟩ rfl ?_
      refine W.iload d3_54 rfl ?_
      refine W.lushr d3_56 ?_
      refine W.lconst 1 d3_57 rfl ?_
      refine W.land d3_58 ?_
      refine W.lstore d3_59 rfl ?_
      show WB _ l Z n m3 61 [(.val (.ref 0)), (.val (.ref 1)), (.val (.ref 2)), (.val (.long (((((((((((((((0 : Int64) <<< ((1 : Int32) &&& 0x3f).toInt64) ||| ((XT.ushrL (Int64.ofNat t1.1) (3 - 1)) &&& 1)) <<< ((1 : Int32) &&& 0x3f).toInt64) ||| ((XT.ushrL (Int64.ofNat t2.1) (3 - 1)) &&& 1)) <<< ((1 : Int32) &&& 0x3f).toInt64) ||| ((XT.ushrL (Int64.ofNat t3.1) (3 - 1)) &&& 1)) <<< ((1 : Int32) &&& 0x3f).toInt64) ||| ((XT.ushrL (Int64.ofNat t1.1) ((3 - 1) + (-1))) &&& 1)) <<< ((1 : Int32) &&& 0x3f).toInt64) ||| ((XT.ushrL (Int64.ofNat t2.1) ((3 - 1) + (-1))) &&& 1)) <<< ((1 : Int32) &&& 0x3f).toInt64) ||| ((XT.ushrL (Int64.ofNat t3.1) ((3 - 1) + (-1))) &&& 1)) <<< ((1 : Int32) &&& 0x3f).toInt64) ||| ((XT.ushrL (Int64.ofNat t2.1) (((3 - 1) + (-1)) + (-1))) &&& 1)))), .second, (.val (.int (((((((0 + 1) + 1) + 1) + 1) + 1) + 1) + 1))), (.val (.int (0))), (.val (.int (1))), (.val (.int (((3 - 1) + (-1)) + (-1)))), (.val (.int (0 + (((XT.ushrL (Int64.ofNat t2.1) (((3 - 1) + (-1)) + (-1))) &&& 1).toInt32)))), (.val (.int (1 + 1))), (.val (.int (0 + 1))), (.val (.long ((XT.ushrL (Int64.ofNat t3.1) (((3 - 1) + (-1)) + (-1))) &&& 1))), .second] [] [.inl ("com/example/reshelve/reshelve/service/sort/ZCurve", [(("com/example/reshelve/reshelve/service/sort/ZCurve", "dimensions", "I"), (.int (3))), (("com/example/reshelve/reshelve/service/sort/ZCurve", "bits", "I"), (.int (3))), (("com/example/reshelve/reshelve/service/sort/ZCurve", "words", "I"), (.int (1)))]), .inr (.long, [(.long (Int64.ofNat t1.1)), (.long (Int64.ofNat t2.1)), (.long (Int64.ofNat t3.1))]), .inr (.long, [(.long (0))])] _ _ _
      refine W.lloadN d3_61 rfl ?_
      refine W.iconst 1 d3_62 rfl ?_
      refine W.lshl d3_63 ?_
      refine W.lload d3_64 rfl ?_
      refine W.lor d3_66 ?_
      refine W.lstoreN d3_67 rfl ?_
      refine W.iinc 1 d3_68 rfl rfl ?_
      refine W.iload d3_71 rfl ?_
      refine W.bipush 64 d3_73 rfl ?_
      refine W.icmp_ne d3_75 (fun h75 => ?_) (fun h => False.elim (by revert h; decide))
      refine W.iload d3_89 rfl ?_
      refine W.lload d3_91 rfl ?_
      refine W.l2i d3_93 ?_
      refine W.iadd d3_94 ?_
      refine W.istore d3_95 rfl ?_
      refine W.iload d3_97 rfl ?_
      refine W.iconst 1 d3_99 rfl ?_
      refine W.iadd d3_100 ?_
      refine W.aloadN d3_101 rfl rfl ?_
      refine W.getfield 0 d3_102 (hw _ (wd 10 rfl)) rfl rfl ?_
      refine W.icmp_ne d3_105 (fun h => False.elim (by revert h; decide)) (fun h105 => ?_)
      refine W.iconst 0 d3_108 rfl ?_
      refine W.goto d3_109 ?_
      refine W.istore d3_116 rfl ?_
      show WB _ l Z n m3 118 [(.val (.ref 0)), (.val (.ref 1)), (.val (.ref 2)), (.val (.long (((((((((((((((((0 : Int64) <<< ((1 : Int32) &&& 0x3f).toInt64) ||| ((XT.ushrL (Int64.ofNat t1.1) (3 - 1)) &&& 1)) <<< ((1 : Int32) &&& 0x3f).toInt64) ||| ((XT.ushrL (Int64.ofNat t2.1) (3 - 1)) &&& 1)) <<< ((1 : Int32) &&& 0x3f).toInt64) ||| ((XT.ushrL (Int64.ofNat t3.1) (3 - 1)) &&& 1)) <<< ((1 : Int32) &&& 0x3f).toInt64) ||| ((XT.ushrL (Int64.ofNat t1.1) ((3 - 1) + (-1))) &&& 1)) <<< ((1 : Int32) &&& 0x3f).toInt64) ||| ((XT.ushrL (Int64.ofNat t2.1) ((3 - 1) + (-1))) &&& 1)) <<< ((1 : Int32) &&& 0x3f).toInt64) ||| ((XT.ushrL (Int64.ofNat t3.1) ((3 - 1) + (-1))) &&& 1)) <<< ((1 : Int32) &&& 0x3f).toInt64) ||| ((XT.ushrL (Int64.ofNat t2.1) (((3 - 1) + (-1)) + (-1))) &&& 1)) <<< ((1 : Int32) &&& 0x3f).toInt64) ||| ((XT.ushrL (Int64.ofNat t3.1) (((3 - 1) + (-1)) + (-1))) &&& 1)))), .second, (.val (.int ((((((((0 + 1) + 1) + 1) + 1) + 1) + 1) + 1) + 1))), (.val (.int (0))), (.val (.int (1))), (.val (.int (((3 - 1) + (-1)) + (-1)))), (.val (.int ((0 + (((XT.ushrL (Int64.ofNat t2.1) (((3 - 1) + (-1)) + (-1))) &&& 1).toInt32)) + (((XT.ushrL (Int64.ofNat t3.1) (((3 - 1) + (-1)) + (-1))) &&& 1).toInt32)))), (.val (.int (0))), (.val (.int (0 + 1))), (.val (.long ((XT.ushrL (Int64.ofNat t3.1) (((3 - 1) + (-1)) + (-1))) &&& 1))), .second] [] [.inl ("com/example/reshelve/reshelve/service/sort/ZCurve", [(("com/example/reshelve/reshelve/service/sort/ZCurve", "dimensions", "I"), (.int (3))), (("com/example/reshelve/reshelve/service/sort/ZCurve", "bits", "I"), (.int (3))), (("com/example/reshelve/reshelve/service/sort/ZCurve", "words", "I"), (.int (1)))]), .inr (.long, [(.long (Int64.ofNat t1.1)), (.long (Int64.ofNat t2.1)), (.long (Int64.ofNat t3.1))]), .inr (.long, [(.long (0))])] _ _ _
      refine W.iinc 1 d3_118 rfl rfl ?_
      refine W.goto d3_121 ?_
      show W l Z n m3 41 [(.val (.ref 0)), (.val (.ref 1)), (.val (.ref 2)), (.val (.long (((((((((((((((((0 : Int64) <<< ((1 : Int32) &&& 0x3f).toInt64) ||| ((XT.ushrL (Int64.ofNat t1.1) (3 - 1)) &&& 1)) <<< ((1 : Int32) &&& 0x3f).toInt64) ||| ((XT.ushrL (Int64.ofNat t2.1) (3 - 1)) &&& 1)) <<< ((1 : Int32) &&& 0x3f).toInt64) ||| ((XT.ushrL (Int64.ofNat t3.1) (3 - 1)) &&& 1)) <<< ((1 : Int32) &&& 0x3f).toInt64) ||| ((XT.ushrL (Int64.ofNat t1.1) ((3 - 1) + (-1))) &&& 1)) <<< ((1 : Int32) &&& 0x3f).toInt64) ||| ((XT.ushrL (Int64.ofNat t2.1) ((3 - 1) + (-1))) &&& 1)) <<< ((1 : Int32) &&& 0x3f).toInt64) ||| ((XT.ushrL (Int64.ofNat t3.1) ((3 - 1) + (-1))) &&& 1)) <<< ((1 : Int32) &&& 0x3f).toInt64) ||| ((XT.ushrL (Int64.ofNat t2.1) (((3 - 1) + (-1)) + (-1))) &&& 1)) <<< ((1 : Int32) &&& 0x3f).toInt64) ||| ((XT.ushrL (Int64.ofNat t3.1) (((3 - 1) + (-1)) + (-1))) &&& 1)))), .second, (.val (.int ((((((((0 + 1) + 1) + 1) + 1) + 1) + 1) + 1) + 1))), (.val (.int (0))), (.val (.int (1))), (.val (.int (((3 - 1) + (-1)) + (-1)))), (.val (.int ((0 + (((XT.ushrL (Int64.ofNat t2.1) (((3 - 1) + (-1)) + (-1))) &&& 1).toInt32)) + (((XT.ushrL (Int64.ofNat t3.1) (((3 - 1) + (-1)) + (-1))) &&& 1).toInt32)))), (.val (.int (0))), (.val (.int ((0 + 1) + 1))), (.val (.long ((XT.ushrL (Int64.ofNat t3.1) (((3 - 1) + (-1)) + (-1))) &&& 1))), .second] [] [.inl ("com/example/reshelve/reshelve/service/sort/ZCurve", [(("com/example/reshelve/reshelve/service/sort/ZCurve", "dimensions", "I"), (.int (3))), (("com/example/reshelve/reshelve/service/sort/ZCurve", "bits", "I"), (.int (3))), (("com/example/reshelve/reshelve/service/sort/ZCurve", "words", "I"), (.int (1)))]), .inr (.long, [(.long (Int64.ofNat t1.1)), (.long (Int64.ofNat t2.1)), (.long (Int64.ofNat t3.1))]), .inr (.long, [(.long (0))])] _ _ _
      refine W.iload d3_41 rfl ?_
      refine W.aloadN d3_43 rfl rfl ?_
      refine W.getfield 0 d3_44 (hw _ (wd 10 rfl)) rfl rfl ?_
      refine W.icmp_ge d3_47 (fun h => False.elim (by revert h; decide)) (fun h47 => ?_)
      refine W.aloadN d3_50 rfl rfl ?_
      refine W.iload d3_51 rfl ?_
      refine W.laload (i := 0) d3_53 rfl ⟨by decide, by decide⟩ rfl ?_
      refine W.iload d3_54 rfl ?_
      refine W.lushr d3_56 ?_
      refine W.lconst 1 d3_57 rfl ?_
      refine W.land d3_58 ?_
      refine W.lstore d3_59 rfl ?_
      refine W.lloadN d3_61 rfl ?_
      refine W.iconst 1 d3_62 rfl ?_
      refine W.lshl d3_63 ?_
      refine W.lload d3_64 rfl ?_
      refine W.lor d3_66 ?_
      refine W.lstoreN d3_67 rfl ?_
      refine W.iinc 1 d3_68 rfl rfl ?_
      show WB _ l Z n m3 71 [(.val (.ref 0)), (.val (.ref 1)), (.val (.ref 2)), (.val (.long (((((((((((((((((((0 : Int64) <<< ((1 : Int32) &&& 0x3f).toInt64) ||| ((XT.ushrL (Int64.ofNat t1.1) (3 - 1)) &&& 1)) <<< ((1 : Int32) &&& 0x3f).toInt64) ||| ((XT.ushrL (Int64.ofNat t2.1) (3 - 1)) &&& 1)) <<< ((1 : Int32) &&& 0x3f).toInt64) ||| ((XT.ushrL (Int64.ofNat t3.1) (3 - 1)) &&& 1)) <<< ((1 : Int32) &&& 0x3f).toInt64) ||| ((XT.ushrL (Int64.ofNat t1.1) ((3 - 1) + (-1))) &&& 1)) <<< ((1 : Int32) &&& 0x3f).toInt64) ||| ((XT.ushrL (Int64.ofNat t2.1) ((3 - 1) + (-1))) &&& 1)) <<< ((1 : Int32) &&& 0x3f).toInt64) ||| ((XT.ushrL (Int64.ofNat t3.1) ((3 - 1) + (-1))) &&& 1)) <<< ((1 : Int32) &&& 0x3f).toInt64) ||| ((XT.ushrL (Int64.ofNat t2.1) (((3 - 1) + (-1)) + (-1))) &&& 1)) <<< ((1 : Int32) &&& 0x3f).toInt64) ||| ((XT.ushrL (Int64.ofNat t3.1) (((3 - 1) + (-1)) + (-1))) &&& 1)) <<< ((1 : Int32) &&& 0x3f).toInt64) ||| ((XT.ushrL (Int64.ofNat t1.1) (((3 - 1) + (-1)) + (-1))) &&& 1)))), .second, (.val (.int (((((((((0 + 1) + 1) + 1) + 1) + 1) + 1) + 1) + 1) + 1))), (.val (.int (0))), (.val (.int (1))), (.val (.int (((3 - 1) + (-1)) + (-1)))), (.val (.int ((0 + (((XT.ushrL (Int64.ofNat t2.1) (((3 - 1) + (-1)) + (-1))) &&& 1).toInt32)) + (((XT.ushrL (Int64.ofNat t3.1) (((3 - 1) + (-1)) + (-1))) &&& 1).toInt32)))), (.val (.int (0))), (.val (.int ((0 + 1) + 1))), (.val (.long ((XT.ushrL (Int64.ofNat t1.1) (((3 - 1) + (-1)) + (-1))) &&& 1))), .second] [] [.inl ("com/example/reshelve/reshelve/service/sort/ZCurve", [(("com/example/reshelve/reshelve/service/sort/ZCurve", "dimensions", "I"), (.int (3))), (("com/example/reshelve/reshelve/service/sort/ZCurve", "bits", "I"), (.int (3))), (("com/example/reshelve/reshelve/service/sort/ZCurve", "words", "I"), (.int (1)))]), .inr (.long, [(.long (Int64.ofNat t1.1)), (.long (Int64.ofNat t2.1)), (.long (Int64.ofNat t3.1))]), .inr (.long, [(.long (0))])] _ _ _
      refine W.iload d3_71 rfl ?_
      refine W.bipush 64 d3_73 rfl ?_
      refine W.icmp_ne d3_75 (fun h75 => ?_) (fun h => False.elim (by revert h; decide))
      refine W.iload d3_89 rfl ?_
      refine W.lload d3_91 rfl ?_
      refine W.l2i d3_93 ?_
      refine W.iadd d3_94 ?_
      refine W.istore d3_95 rfl ?_
      refine W.iload d3_97 rfl ?_
      refine W.iconst 1 d3_99 rfl ?_
      refine W.iadd d3_100 ?_
      refine W.aloadN d3_101 rfl rfl ?_
      refine W.getfield 0 d3_102 (hw _ (wd 10 rfl)) rfl rfl ?_
      refine W.icmp_ne d3_105 (fun h105 => ?_) (fun h => False.elim (by revert h; decide))
      refine W.iload d3_112 rfl ?_
      refine W.iconst 1 d3_114 rfl ?_
      refine W.iadd d3_115 ?_
      refine W.istore d3_116 rfl ?_
      refine W.iinc 1 d3_118 rfl rfl ?_
      refine W.goto d3_121 ?_
      show W l Z n m3 41 [(.val (.ref 0)), (.val (.ref 1)), (.val (.ref 2)), (.val (.long (((((((((((((((((((0 : Int64) <<< ((1 : Int32) &&& 0x3f).toInt64) ||| ((XT.ushrL (Int64.ofNat t1.1) (3 - 1)) &&& 1)) <<< ((1 : Int32) &&& 0x3f).toInt64) ||| ((XT.ushrL (Int64.ofNat t2.1) (3 - 1)) &&& 1)) <<< ((1 : Int32) &&& 0x3f).toInt64) ||| ((XT.ushrL (Int64.ofNat t3.1) (3 - 1)) &&& 1)) <<< ((1 : Int32) &&& 0x3f).toInt64) ||| ((XT.ushrL (Int64.ofNat t1.1) ((3 - 1) + (-1))) &&& 1)) <<< ((1 : Int32) &&& 0x3f).toInt64) ||| ((XT.ushrL (Int64.ofNat t2.1) ((3 - 1) + (-1))) &&& 1)) <<< ((1 : Int32) &&& 0x3f).toInt64) ||| ((XT.ushrL (Int64.ofNat t3.1) ((3 - 1) + (-1))) &&& 1)) <<< ((1 : Int32) &&& 0x3f).toInt64) ||| ((XT.ushrL (Int64.ofNat t2.1) (((3 - 1) + (-1)) + (-1))) &&& 1)) <<< ((1 : Int32) &&& 0x3f).toInt64) ||| ((XT.ushrL (Int64.ofNat t3.1) (((3 - 1) + (-1)) + (-1))) &&& 1)) <<< ((1 : Int32) &&& 0x3f).toInt64) ||| ((XT.ushrL (Int64.ofNat t1.1) (((3 - 1) + (-1)) + (-1))) &&& 1)))), .second, (.val (.int (((((((((0 + 1) + 1) + 1) + 1) + 1) + 1) + 1) + 1) + 1))), (.val (.int (0))), (.val (.int (1))), (.val (.int (((3 - 1) + (-1)) + (-1)))), (.val (.int (((0 + (((XT.ushrL (Int64.ofNat t2.1) (((3 - 1) + (-1)) + (-1))) &&& 1).toInt32)) + (((XT.ushrL (Int64.ofNat t3.1) (((3 - 1) + (-1)) + (-1))) &&& 1).toInt32)) + (((XT.ushrL (Int64.ofNat t1.1) (((3 - 1) + (-1)) + (-1))) &&& 1).toInt32)))), (.val (.int (0 + 1))), (.val (.int (((0 + 1) + 1) + 1))), (.val (.long ((XT.ushrL (Int64.ofNat t1.1) (((3 - 1) + (-1)) + (-1))) &&& 1))), .second] [] [.inl ("com/example/reshelve/reshelve/service/sort/ZCurve", [(("com/example/reshelve/reshelve/service/sort/ZCurve", "dimensions", "I"), (.int (3))), (("com/example/reshelve/reshelve/service/sort/ZCurve", "bits", "I"), (.int (3))), (("com/example/reshelve/reshelve/service/sort/ZCurve", "words", "I"), (.int (1)))]), .inr (.long, [(.long (Int64.ofNat t1.1)), (.long (Int64.ofNat t2.1)), (.long (Int64.ofNat t3.1))]), .inr (.long, [(.long (0))])] _ _ _
      refine W.iload d3_41 rfl ?_
      refine W.aloadN d3_43 rfl rfl ?_
      refine W.getfield 0 d3_44 (hw _ (wd 10 rfl)) rfl rfl ?_
      refine W.icmp_ge d3_47 (fun h47 => ?_) (fun h => False.elim (by revert h; decide))
      refine W.iload d3_124 rfl ?_
      refine W.iload d3_126 rfl ?_
      refine W.iadd d3_128 ?_
      refine W.istore d3_129 rfl ?_
      show WB _ l Z n m3 131 [(.val (.ref 0)), (.val (.ref 1)), (.val (.ref 2)), (.val (.long (((((((((((((((((((0 : Int64) <<< ((1 : Int32) &&& 0x3f).toInt64) ||| ((XT.ushrL (Int64.ofNat t1.1) (3 - 1)) &&& 1)) <<< ((1 : Int32) &&& 0x3f).toInt64) ||| ((XT.ushrL (Int64.ofNat t2.1) (3 - 1)) &&& 1)) <<< ((1 : Int32) &&& 0x3f).toInt64) ||| ((XT.ushrL (Int64.ofNat t3.1) (3 - 1)) &&& 1)) <<< ((1 : Int32) &&& 0x3f).toInt64) ||| ((XT.ushrL (Int64.ofNat t1.1) ((3 - 1) + (-1))) &&& 1)) <<< ((1 : Int32) &&& 0x3f).toInt64) ||| ((XT.ushrL (Int64.ofNat t2.1) ((3 - 1) + (-1))) &&& 1)) <<< ((1 : Int32) &&& 0x3f).toInt64) ||| ((XT.ushrL (Int64.ofNat t3.1) ((3 - 1) + (-1))) &&& 1)) <<< ((1 : Int32) &&& 0x3f).toInt64) ||| ((XT.ushrL (Int64.ofNat t2.1) (((3 - 1) + (-1)) + (-1))) &&& 1)) <<< ((1 : Int32) &&& 0x3f).toInt64) ||| ((XT.ushrL (Int64.ofNat t3.1) (((3 - 1) + (-1)) + (-1))) &&& 1)) <<< ((1 : Int32) &&& 0x3f).toInt64) ||| ((XT.ushrL (Int64.ofNat t1.1) (((3 - 1) + (-1)) + (-1))) &&& 1)))), .second, (.val (.int (((((((((0 + 1) + 1) + 1) + 1) + 1) + 1) + 1) + 1) + 1))), (.val (.int (0))), (.val (.int (1 + (((0 + (((XT.ushrL (Int64.ofNat t2.1) (((3 - 1) + (-1)) + (-1))) &&& 1).toInt32)) + (((XT.ushrL (Int64.ofNat t3.1) (((3 - 1) + (-1)) + (-1))) &&& 1).toInt32)) + (((XT.ushrL (Int64.ofNat t1.1) (((3 - 1) + (-1)) + (-1))) &&& 1).toInt32))))), (.val (.int (((3 - 1) + (-1)) + (-1)))), (.val (.int (((0 + (((XT.ushrL (Int64.ofNat t2.1) (((3 - 1) + (-1)) + (-1))) &&& 1).toInt32)) + (((XT.ushrL (Int64.ofNat t3.1) (((3 - 1) + (-1)) + (-1))) &&& 1).toInt32)) + (((XT.ushrL (Int64.ofNat t1.1) (((3 - 1) + (-1)) + (-1))) &&& 1).toInt32)))), (.val (.int (0 + 1))), (.val (.int (((0 + 1) + 1) + 1))), (.val (.long ((XT.ushrL (Int64.ofNat t1.1) (((3 - 1) + (-1)) + (-1))) &&& 1))), .second] [] [.inl ("com/example/reshelve/reshelve/service/sort/ZCurve", [(("com/example/reshelve/reshelve/service/sort/ZCurve", "dimensions", "I"), (.int (3))), (("com/example/reshelve/reshelve/service/sort/ZCurve", "bits", "I"), (.int (3))), (("com/example/reshelve/reshelve/service/sort/ZCurve", "words", "I"), (.int (1)))]), .inr (.long, [(.long (Int64.ofNat t1.1)), (.long (Int64.ofNat t2.1)), (.long (Int64.ofNat t3.1))]), .inr (.long, [(.long (0))])] _ _ _
      refine W.iload d3_131 rfl ?_
      refine W.aloadN d3_133 rfl rfl ?_
      refine W.getfield 0 d3_134 (hw _ (wd 10 rfl)) rfl rfl ?_
      refine W.icmp_lt d3_137 (fun h137 => ?_) (fun h137 => ?_)
      · refine W.iinc (-1) d3_149 rfl rfl ?_
        refine W.goto d3_152 ?_
        refine W.iload d3_26 rfl ?_
        refine W.if_lt d3_28 (fun h28 => ?_) (fun h => False.elim (by revert h; decide))
        refine W.iload d3_155 rfl ?_
        refine W.if_le d3_157 (fun h => False.elim (by revert h; decide)) (fun h157 => ?_)
        refine W.aloadN d3_160 rfl rfl ?_
        refine W.iload d3_161 rfl ?_
        refine W.lloadN d3_163 rfl ?_
        refine W.bipush 64 d3_164 rfl ?_
        refine W.iload d3_166 rfl ?_
        refine W.isub d3_168 ?_
        refine W.lshl d3_169 ?_
        refine W.lastore (i := 0) d3_170 rfl ⟨by decide, by decide⟩ (by simp) ?_
        refine W.aloadN d3_171 rfl rfl ?_
        exact W.areturn d3_172 rfl rfl rfl (by decide) (by decide) (⟨rfl, by rw [own_k18 t1 t2 t3 q0 q1] <;> rfl⟩)
      · refine W.iload d3_140 rfl ?_
        refine W.aloadN d3_142 rfl rfl ?_
        refine W.getfield 0 d3_143 (hw _ (wd 10 rfl)) rfl rfl ?_
        refine W.isub d3_146 ?_
        refine W.istore d3_147 rfl ?_
        refine W.iinc (-1) d3_149 rfl rfl ?_
        refine W.goto d3_152 ?_
        refine W.iload d3_26 rfl ?_
        refine W.if_lt d3_28 (fun h28 => ?_) (fun h => False.elim (by revert h; decide))
        refine W.iload d3_155 rfl ?_
        refine W.if_le d3_157 (fun h => False.elim (by revert h; decide)) (fun h157 => ?_)
        refine W.aloadN d3_160 rfl rfl ?_
        refine W.iload d3_161 rfl ?_
        refine W.lloadN d3_163 rfl ?_
        refine W.bipush 64 d3_164 rfl ?_
        refine W.iload d3_166 rfl ?_
        refine W.isub d3_168 ?_
        refine W.lshl d3_169 ?_
        refine W.lastore (i := 0) d3_170 rfl ⟨by decide, by decide⟩ (by simp) ?_
        refine W.aloadN d3_171 rfl rfl ?_
        exact W.areturn d3_172 rfl rfl rfl (by decide) (by decide) (⟨rfl, by rw [own_k18 t1 t2 t3 q0 q1] <;> rfl⟩)
    · rw [q1]
      refine W.istore d3_129 rfl ?_
      refine W.iload d3_131 rfl ?_
      refine W.aloadN d3_133 rfl rfl ?_
      refine W.getfield 0 d3_134 (hw _ (wd 10 rfl)) rfl rfl ?_
      refine W.icmp_lt d3_137 (fun h137 => ?_) (fun h => False.elim (by revert h; decide))
      refine W.iinc (-1) d3_149 rfl rfl ?_
      refine W.goto d3_152 ?_
      refine W.iload d3_26 rfl ?_
      refine W.if_lt d3_28 (fun h => False.elim (by revert h; decide)) (fun h28 => ?_)
      refine W.iconst 0 d3_31 rfl ?_
      refine W.istore d3_32 rfl ?_
      refine W.iload d3_34 rfl ?_
      refine W.istore d3_36 rfl ?_
      show WB _ l Z n m3 38 [(.val (.ref 0)), (.val (.ref 1)), (.val (.ref 2)), (.val (.long (((((((((((((0 : Int64) <<< ((1 : Int32) &&& 0x3f).toInt64) ||| ((XT.ushrL (Int64.ofNat t1.1) (3 - 1)) &&& 1)) <<< ((1 : Int32) &&& 0x3f).toInt64) ||| ((XT.ushrL (Int64.ofNat t2.1) (3 - 1)) &&& 1)) <<< ((1 : Int32) &&& 0x3f).toInt64) ||| ((XT.ushrL (Int64.ofNat t3.1) (3 - 1)) &&& 1)) <<< ((1 : Int32) &&& 0x3f).toInt64) ||| ((XT.ushrL (Int64.ofNat t1.1) ((3 - 1) + (-1))) &&& 1)) <<< ((1 : Int32) &&& 0x3f).toInt64) ||| ((XT.ushrL (Int64.ofNat t2.1) ((3 - 1) + (-1))) &&& 1)) <<< ((1 : Int32) &&& 0x3f).toInt64) ||| ((XT.ushrL (Int64.ofNat t3.1) ((3 - 1) + (-1))) &&& 1)))), .second, (.val (.int ((((((0 + 1) + 1) + 1) + 1) + 1) + 1))), (.val (.int (0))), (.val (.int (2))), (.val (.int (((3 - 1) + (-1)) + (-1)))), (.val (.int (0))), (.val (.int (2))), (.val (.int (((0 + 1) + 1) + 1))), (.val (.long ((XT.ushrL (Int64.ofNat t3.1) ((3 - 1) + (-1))) &&& 1))), .second] [] [.inl ("com/example/reshelve/reshelve/service/sort/ZCurve", [(("com/example/reshelve/reshelve/service/sort/ZCurve", "dimensions", "I"), (.int (3))), (("com/example/reshelve/reshelve/service/sort/ZCurve", "bits", "I"), (.int (3))), (("com/example/reshelve/reshelve/service/sort/ZCurve", "words", "I"), (.int (1)))]), .inr (.long, [(.long (Int64.ofNat t1.1)), (.long (Int64.ofNat t2.1)), (.long (Int64.ofNat t3.1))]), .inr (.long, [(.long (0))])] _ _ _
      refine W.iconst 0 d3_38 rfl ?_
      refine W.istore d3_39 rfl ?_
      show W l Z n m3 41 [(.val (.ref 0)), (.val (.ref 1)), (.val (.ref 2)), (.val (.long (((((((((((((0 : Int64) <<< ((1 : Int32) &&& 0x3f).toInt64) ||| ((XT.ushrL (Int64.ofNat t1.1) (3 - 1)) &&& 1)) <<< ((1 : Int32) &&& 0x3f).toInt64) ||| ((XT.ushrL (Int64.ofNat t2.1) (3 - 1)) &&& 1)) <<< ((1 : Int32) &&& 0x3f).toInt64) ||| ((XT.ushrL (Int64.ofNat t3.1) (3 - 1)) &&& 1)) <<< ((1 : Int32) &&& 0x3f).toInt64) ||| ((XT.ushrL (Int64.ofNat t1.1) ((3 - 1) + (-1))) &&& 1)) <<< ((1 : Int32) &&& 0x3f).toInt64) ||| ((XT.ushrL (Int64.ofNat t2.1) ((3 - 1) + (-1))) &&& 1)) <<< ((1 : Int32) &&& 0x3f).toInt64) ||| ((XT.ushrL (Int64.ofNat t3.1) ((3 - 1) + (-1))) &&& 1)))), .second, (.val (.int ((((((0 + 1) + 1) + 1) + 1) + 1) + 1))), (.val (.int (0))), (.val (.int (2))), (.val (.int (((3 - 1) + (-1)) + (-1)))), (.val (.int (0))), (.val (.int (2))), (.val (.int (0))), (.val (.long ((XT.ushrL (Int64.ofNat t3.1) ((3 - 1) + (-1))) &&& 1))), .second] [] [.inl ("com/example/reshelve/reshelve/service/sort/ZCurve", [(("com/example/reshelve/reshelve/service/sort/ZCurve", "dimensions", "I"), (.int (3))), (("com/example/reshelve/reshelve/service/sort/ZCurve", "bits", "I"), (.int (3))), (("com/example/reshelve/reshelve/service/sort/ZCurve", "words", "I"), (.int (1)))]), .inr (.long, [(.long (Int64.ofNat t1.1)), (.long (Int64.ofNat t2.1)), (.long (Int64.ofNat t3.1))]), .inr (.long, [(.long (0))])] _ _ _
      refine W.iload d3_41 rfl ?_
      refine W.aloadN d3_43 rfl rfl ?_
      refine W.getfield 0 d3_44 (hw _ (wd 10 rfl)) rfl rfl ?_
      refine W.icmp_ge d3_47 (fun h => False.elim (by revert h; decide)) (fun h47 => ?_)
      refine W.aloadN d3_50 rfl rfl ?_
      refine W.iload d3_51 rfl ?_
      refine W.laload (i := 2) d3_53 rfl ⟨by decide, by decide⟩ rfl ?_
      refine W.iload d3_54 rfl ?_
      refine W.lushr d3_56 ?_
      refine W.lconst 1 d3_57 rfl ?_
      refine W.land d3_58 ?_
      refine W.lstore d3_59 rfl ?_
      refine W.lloadN d3_61 rfl ?_
      refine W.iconst 1 d3_62 rfl ?_
      refine W.lshl d3_63 ?_
      refine W.lload d3_64 rfl ?_
      refine W.lor d3_66 ?_
      refine W.lstoreN d3_67 rfl ?_
      refine W.iinc 1 d3_68 rfl rfl ?_
      show WB _ l Z n m3 71 [(.val (.ref 0)), (.val (.ref 1)), (.val (.ref 2)), (.val (.long (((((((((((((((0 : Int64) <<< ((1 : Int32) &&& 0x3f).toInt64) ||| ((XT.ushrL (Int64.ofNat t1.1) (3 - 1)) &&& 1)) <<< ((1 : Int32) &&& 0x3f).toInt64) ||| ((XT.ushrL (Int64.ofNat t2.1) (3 - 1)) &&& 1)) <<< ((1 : Int32) &&& 0x3f).toInt64) ||| ((XT.ushrL (Int64.ofNat t3.1) (3 - 1)) &&& 1)) <<< ((1 : Int32) &&& 0x3f).toInt64) ||| ((XT.ushrL (Int64.ofNat t1.1) ((3 - 1) + (-1))) &&& 1)) <<< ((1 : Int32) &&& 0x3f).toInt64) ||| ((XT.ushrL (Int64.ofNat t2.1) ((3 - 1) + (-1))) &&& 1)) <<< ((1 : Int32) &&& 0x3f).toInt64) ||| ((XT.ushrL (Int64.ofNat t3.1) ((3 - 1) + (-1))) &&& 1)) <<< ((1 : Int32) &&& 0x3f).toInt64) ||| ((XT.ushrL (Int64.ofNat t3.1) (((3 - 1) + (-1)) + (-1))) &&& 1)))), .second, (.val (.int (((((((0 + 1) + 1) + 1) + 1) + 1) + 1) + 1))), (.val (.int (0))), (.val (.int (2))), (.val (.int (((3 - 1) + (-1)) + (-1)))), (.val (.int (0))), (.val (.int (2))), (.val (.int (0))), (.val (.long ((XT.ushrL (Int64.ofNat t3.1) (((3 - 1) + (-1)) + (-1))) &&& 1))), .second] [] [.inl ("com/example/reshelve/reshelve/service/sort/ZCurve", [(("com/example/reshelve/reshelve/service/sort/ZCurve", "dimensions", "I"), (.int (3))), (("com/example/reshelve/reshelve/service/sort/ZCurve", "bits", "I"), (.int (3))), (("com/example/reshelve/reshelve/service/sort/ZCurve", "words", "I"), (.int (1)))]), .inr (.long, [(.long (Int64.ofNat t1.1)), (.long (Int64.ofNat t2.1)), (.long (Int64.ofNat t3.1))]), .inr (.long, [(.long (0))])] _ _ _
      refine W.iload d3_71 rfl ?_
      refine W.bipush 64 d3_73 rfl ?_
      refine W.icmp_ne d3_75 (fun h75 => ?_) (fun h => False.elim (by revert h; decide))
      refine W.iload d3_89 rfl ?_
      refine W.lload d3_91 rfl ?_
      refine W.l2i d3_93 ?_
      refine W.iadd d3_94 ?_
      refine W.istore d3_95 rfl ?_
      refine W.iload d3_97 rfl ?_
      refine W.iconst 1 d3_99 rfl ?_
      refine W.iadd d3_100 ?_
      refine W.aloadN d3_101 rfl rfl ?_
      refine W.getfield 0 d3_102 (hw _ (wd 10 rfl)) rfl rfl ?_
      refine W.icmp_ne d3_105 (fun h => False.elim (by revert h; decide)) (fun h105 => ?_)
      refine W.iconst 0 d3_108 rfl ?_
      refine W.goto d3_109 ?_
      refine W.istore d3_116 rfl ?_
      refine W.iinc 1 d3_118 rfl rfl ?_
      refine W.goto d3_121 ?_
      show W l Z n m3 41 [(.val (.ref 0)), (.val (.ref 1)), (.val (.ref 2)), (.val (.long (((((((((((((((0 : Int64) <<< ((1 : Int32) &&& 0x3f).toInt64) ||| ((XT.ushrL (Int64.ofNat t1.1) (3 - 1)) &&& 1)) <<< ((1 : Int32) &&& 0x3f).toInt64) ||| ((XT.ushrL (Int64.ofNat t2.1) (3 - 1)) &&& 1)) <<< ((1 : Int32) &&& 0x3f).toInt64) ||| ((XT.ushrL (Int64.ofNat t3.1) (3 - 1)) &&& 1)) <<< ((1 : Int32) &&& 0x3f).toInt64) ||| ((XT.ushrL (Int64.ofNat t1.1) ((3 - 1) + (-1))) &&& 1)) <<< ((1 : Int32) &&& 0x3f).toInt64) ||| ((XT.ushrL (Int64.ofNat t2.1) ((3 - 1) + (-1))) &&& 1)) <<< ((1 : Int32) &&& 0x3f).toInt64) ||| ((XT.ushrL (Int64.ofNat t3.1) ((3 - 1) + (-1))) &&& 1)) <<< ((1 : Int32) &&& 0x3f).toInt64) ||| ((XT.ushrL (Int64.ofNat t3.1) (((3 - 1) + (-1)) + (-1))) &&& 1)))), .second, (.val (.int (((((((0 + 1) + 1) + 1) + 1) + 1) + 1) + 1))), (.val (.int (0))), (.val (.int (2))), (.val (.int (((3 - 1) + (-1)) + (-1)))), (.val (.int (0 + (((XT.ushrL (Int64.ofNat t3.1) (((3 - 1) + (-1)) + (-1))) &&& 1).toInt32)))), (.val (.int (0))), (.val (.int (0 + 1))), (.val (.long ((XT.ushrL (Int64.ofNat t3.1) (((3 - 1) + (-1)) + (-1))) &&& 1))), .second] [] [.inl ("com/example/reshelve/reshelve/service/sort/ZCurve", [(("com/example/reshelve/reshelve/service/sort/ZCurve", "dimensions", "I"), (.int (3))), (("com/example/reshelve/reshelve/service/sort/ZCurve", "bits", "I"), (.int (3))), (("com/example/reshelve/reshelve/service/sort/ZCurve", "words", "I"), (.int (1)))]), .inr (.long, [(.long (Int64.ofNat t1.1)), (.long (Int64.ofNat t2.1)), (.long (Int64.ofNat t3.1))]), .inr (.long, [(.long (0))])] _ _ _
      refine W.iload d3_41 rfl ?_
      refine W.aloadN d3_43 rfl rfl ?_
      refine W.getfield 0 d3_44 (hw _ (wd 10 rfl)) rfl rfl ?_
      refine W.icmp_ge d3_47 (fun h => False.elim (by revert h; decide)) (fun h47 => ?_)
      refine W.aloadN d3_50 rfl rfl ?_
      refine W.iload d3_51 rfl ?_
      refine W.laload (i := 0) d3_53 rfl ⟨by decide, by decide⟩ rfl ?_
      refine W.iload d3_54 rfl ?_
      refine W.lushr d3_56 ?_
      refine W.lconst 1 d3_57 rfl ?_
      refine W.land d3_58 ?_
      refine W.lstore d3_59 rfl ?_
      show WB _ l Z n m3 61 [(.val (.ref 0)), (.val (.ref 1)), (.val (.ref 2)), (.val (.long (((((((((((((((0 : Int64) <<< ((1 : Int32) &&& 0x3f).toInt64) ||| ((XT.ushrL (Int64.ofNat t1.1) (3 - 1)) &&& 1)) <<< ((1 : Int32) &&& 0x3f).toInt64) ||| ((XT.ushrL (Int64.ofNat t2.1) (3 - 1)) &&& 1)) <<< ((1 : Int32) &&& 0x3f).toInt64) ||| ((XT.ushrL (Int64.ofNat t3.1) (3 - 1)) &&& 1)) <<< ((1 : Int32) &&& 0x3f).toInt64) ||| ((XT.ushrL (Int64.ofNat t1.1) ((3 - 1) + (-1))) &&& 1)) <<< ((1 : Int32) &&& 0x3f).toInt64) ||| ((XT.ushrL (Int64.ofNat t2.1) ((3 - 1) + (-1))) &&& 1)) <<< ((1 : Int32) &&& 0x3f).toInt64) ||| ((XT.ushrL (Int64.ofNat t3.1) ((3 - 1) + (-1))) &&& 1)) <<< ((1 : Int32) &&& 0x3f).toInt64) ||| ((XT.ushrL (Int64.ofNat t3.1) (((3 - 1) + (-1)) + (-1))) &&& 1)))), .second, (.val (.int (((((((0 + 1) + 1) + 1) + 1) + 1) + 1) + 1))), (.val (.int (0))), (.val (.int (2))), (.val (.int (((3 - 1) + (-1)) + (-1)))), (.val (.int (0 + (((XT.ushrL (Int64.ofNat t3.1) (((3 - 1) + (-1)) + (-1))) &&& 1).toInt32)))), (.val (.int (0))), (.val (.int (0 + 1))), (.val (.long ((XT.ushrL (Int64.ofNat t1.1) (((3 - 1) + (-1)) + (-1))) &&& 1))), .second] [] [.inl ("com/example/reshelve/reshelve/service/sort/ZCurve", [(("com/example/reshelve/reshelve/service/sort/ZCurve", "dimensions", "I"), (.int (3))), (("com/example/reshelve/reshelve/service/sort/ZCurve", "bits", "I"), (.int (3))), (("com/example/reshelve/reshelve/service/sort/ZCurve", "words", "I"), (.int (1)))]), .inr (.long, [(.long (Int64.ofNat t1.1)), (.long (Int64.ofNat t2.1)), (.long (Int64.ofNat t3.1))]), .inr (.long, [(.long (0))])] _ _ _
      refine W.lloadN d3_61 rfl ?_
      refine W.iconst 1 d3_62 rfl ?_
      refine W.lshl d3_63 ?_
      refine W.lload d3_64 rfl ?_
      refine W.lor d3_66 ?_
      refine W.lstoreN d3_67 rfl ?_
      refine W.iinc 1 d3_68 rfl rfl ?_
      refine W.iload d3_71 rfl ?_
      refine W.bipush 64 d3_73 rfl ?_
      refine W.icmp_ne d3_75 (fun h75 => ?_) (fun h => False.elim (by revert h; decide))
      refine W.iload d3_89 rfl ?_
      refine W.lload d3_91 rfl ?_
      refine W.l2i d3_93 ?_
      refine W.iadd d3_94 ?_
      refine W.istore d3_95 rfl ?_
      refine W.iload d3_97 rfl ?_
      refine W.iconst 1 d3_99 rfl ?_
      refine W.iadd d3_100 ?_
      refine W.aloadN d3_101 rfl rfl ?_
      refine W.getfield 0 d3_102 (hw _ (wd 10 rfl)) rfl rfl ?_
      refine W.icmp_ne d3_105 (fun h105 => ?_) (fun h => False.elim (by revert h; decide))
      refine W.iload d3_112 rfl ?_
      refine W.iconst 1 d3_114 rfl ?_
      refine W.iadd d3_115 ?_
      refine W.istore d3_116 rfl ?_
      show WB _ l Z n m3 118 [(.val (.ref 0)), (.val (.ref 1)), (.val (.ref 2)), (.val (.long (((((((((((((((((0 : Int64) <<< ((1 : Int32) &&& 0x3f).toInt64) ||| ((XT.ushrL (Int64.ofNat t1.1) (3 - 1)) &&& 1)) <<< ((1 : Int32) &&& 0x3f).toInt64) ||| ((XT.ushrL (Int64.ofNat t2.1) (3 - 1)) &&& 1)) <<< ((1 : Int32) &&& 0x3f).toInt64) ||| ((XT.ushrL (Int64.ofNat t3.1) (3 - 1)) &&& 1)) <<< ((1 : Int32) &&& 0x3f).toInt64) ||| ((XT.ushrL (Int64.ofNat t1.1) ((3 - 1) + (-1))) &&& 1)) <<< ((1 : Int32) &&& 0x3f).toInt64) ||| ((XT.ushrL (Int64.ofNat t2.1) ((3 - 1) + (-1))) &&& 1)) <<< ((1 : Int32) &&& 0x3f).toInt64) ||| ((XT.ushrL (Int64.ofNat t3.1) ((3 - 1) + (-1))) &&& 1)) <<< ((1 : Int32) &&& 0x3f).toInt64) ||| ((XT.ushrL (Int64.ofNat t3.1) (((3 - 1) + (-1)) + (-1))) &&& 1)) <<< ((1 : Int32) &&& 0x3f).toInt64) ||| ((XT.ushrL (Int64.ofNat t1.1) (((3 - 1) + (-1)) + (-1))) &&& 1)))), .second, (.val (.int ((((((((0 + 1) + 1) + 1) + 1) + 1) + 1) + 1) + 1))), (.val (.int (0))), (.val (.int (2))), (.val (.int (((3 - 1) + (-1)) + (-1)))), (.val (.int ((0 + (((XT.ushrL (Int64.ofNat t3.1) (((3 - 1) + (-1)) + (-1))) &&& 1).toInt32)) + (((XT.ushrL (Int64.ofNat t1.1) (((3 - 1) + (-1)) + (-1))) &&& 1).toInt32)))), (.val (.int (0 + 1))), (.val (.int (0 + 1))), (.val (.long ((XT.ushrL (Int64.ofNat t1.1) (((3 - 1) + (-1)) + (-1))) &&& 1))), .second] [] [.inl ("com/example/reshelve/reshelve/service/sort/ZCurve", [(("com/example/reshelve/reshelve/service/sort/ZCurve", "dimensions", "I"), (.int (3))), (("com/example/reshelve/reshelve/service/sort/ZCurve", "bits", "I"), (.int (3))), (("com/example/reshelve/reshelve/service/sort/ZCurve", "words", "I"), (.int (1)))]), .inr (.long, [(.long (Int64.ofNat t1.1)), (.long (Int64.ofNat t2.1)), (.long (Int64.ofNat t3.1))]), .inr (.long, [(.long (0))])] _ _ _
      refine W.iinc 1 d3_118 rfl rfl ?_
      refine W.goto d3_121 ?_
      show W l Z n m3 41 [(.val (.ref 0)), (.val (.ref 1)), (.val (.ref 2)), (.val (.long (((((((((((((((((0 : Int64) <<< ((1 : Int32) &&& 0x3f).toInt64) ||| ((XT.ushrL (Int64.ofNat t1.1) (3 - 1)) &&& 1)) <<< ((1 : Int32) &&& 0x3f).toInt64) ||| ((XT.ushrL (Int64.ofNat t2.1) (3 - 1)) &&& 1)) <<< ((1 : Int32) &&& 0x3f).toInt64) ||| ((XT.ushrL (Int64.ofNat t3.1) (3 - 1)) &&& 1)) <<< ((1 : Int32) &&& 0x3f).toInt64) ||| ((XT.ushrL (Int64.ofNat t1.1) ((3 - 1) + (-1))) &&& 1)) <<< ((1 : Int32) &&& 0x3f).toInt64) ||| ((XT.ushrL (Int64.ofNat t2.1) ((3 - 1) + (-1))) &&& 1)) <<< ((1 : Int32) &&& 0x3f).toInt64) ||| ((XT.ushrL (Int64.ofNat t3.1) ((3 - 1) + (-1))) &&& 1)) <<< ((1 : Int32) &&& 0x3f).toInt64) ||| ((XT.ushrL (Int64.ofNat t3.1) (((3 - 1) + (-1)) + (-1))) &&& 1)) <<< ((1 : Int32) &&& 0x3f).toInt64) ||| ((XT.ushrL (Int64.ofNat t1.1) (((3 - 1) + (-1)) + (-1))) &&& 1)))), .second, (.val (.int ((((((((0 + 1) + 1) + 1) + 1) + 1) + 1) + 1) + 1))), (.val (.int (0))), (.val (.int (2))), (.val (.int (((3 - 1) + (-1)) + (-1)))), (.val (.int ((0 + (((XT.ushrL (Int64.ofNat t3.1) (((3 - 1) + (-1)) + (-1))) &&& 1).toInt32)) + (((XT.ushrL (Int64.ofNat t1.1) (((3 - 1) + (-1)) + (-1))) &&& 1).toInt32)))), (.val (.int (0 + 1))), (.val (.int ((0 + 1) + 1))), (.val (.long ((XT.ushrL (Int64.ofNat t1.1) (((3 - 1) + (-1)) + (-1))) &&& 1))), .second] [] [.inl ("com/example/reshelve/reshelve/service/sort/ZCurve", [(("com/example/reshelve/reshelve/service/sort/ZCurve", "dimensions", "I"), (.int (3))), (("com/example/reshelve/reshelve/service/sort/ZCurve", "bits", "I"), (.int (3))), (("com/example/reshelve/reshelve/service/sort/ZCurve", "words", "I"), (.int (1)))]), .inr (.long, [(.long (Int64.ofNat t1.1)), (.long (Int64.ofNat t2.1)), (.long (Int64.ofNat t3.1))]), .inr (.long, [(.long (0))])] _ _ _
      refine W.iload d3_41 rfl ?_
      refine W.aloadN d3_43 rfl rfl ?_
      refine W.getfield 0 d3_44 (hw _ (wd 10 rfl)) rfl rfl ?_
      refine W.icmp_ge d3_47 (fun h => False.elim (by revert h; decide)) (fun h47 => ?_)
      refine W.aloadN d3_50 rfl rfl ?_
      refine W.iload d3_51 rfl ?_
      refine W.laload (i := 1) d3_53 rfl ⟨by decide, by decide⟩ rfl ?_
      refine W.iload d3_54 rfl ?_
      refine W.lushr d3_56 ?_
      refine W.lconst 1 d3_57 rfl ?_
      refine W.land d3_58 ?_
      refine W.lstore d3_59 rfl ?_
      refine W.lloadN d3_61 rfl ?_
      refine W.iconst 1 d3_62 rfl ?_
      refine W.lshl d3_63 ?_
      refine W.lload d3_64 rfl ?_
      refine W.lor d3_66 ?_
      refine W.lstoreN d3_67 rfl ?_
      refine W.iinc 1 d3_68 rfl rfl ?_
      show WB _ l Z n m3 71 [(.val (.ref 0)), (.val (.ref 1)), (.val (.ref 2)), (.val (.long (((((((((((((((((((0 : Int64) <<< ((1 : Int32) &&& 0x3f).toInt64) ||| ((XT.ushrL (Int64.ofNat t1.1) (3 - 1)) &&& 1)) <<< ((1 : Int32) &&& 0x3f).toInt64) ||| ((XT.ushrL (Int64.ofNat t2.1) (3 - 1)) &&& 1)) <<< ((1 : Int32) &&& 0x3f).toInt64) ||| ((XT.ushrL (Int64.ofNat t3.1) (3 - 1)) &&& 1)) <<< ((1 : Int32) &&& 0x3f).toInt64) ||| ((XT.ushrL (Int64.ofNat t1.1) ((3 - 1) + (-1))) &&& 1)) <<< ((1 : Int32) &&& 0x3f).toInt64) ||| ((XT.ushrL (Int64.ofNat t2.1) ((3 - 1) + (-1))) &&& 1)) <<< ((1 : Int32) &&& 0x3f).toInt64) ||| ((XT.ushrL (Int64.ofNat t3.1) ((3 - 1) + (-1))) &&& 1)) <<< ((1 : Int32) &&& 0x3f).toInt64) ||| ((XT.ushrL (Int64.ofNat t3.1) (((3 - 1) + (-1)) + (-1))) &&& 1)) <<< ((1 : Int32) &&& 0x3f).toInt64) ||| ((XT.ushrL (Int64.ofNat t1.1) (((3 - 1) + (-1)) + (-1))) &&& 1)) <<< ((1 : Int32) &&& 0x3f).toInt64) ||| ((XT.ushrL (Int64.ofNat t2.1) (((3 - 1) + (-1)) + (-1))) &&& 1)))), .second, (.val (.int (((((((((0 + 1) + 1) + 1) + 1) + 1) + 1) + 1) + 1) + 1))), (.val (.int (0))), (.val (.int (2))), (.val (.int (((3 - 1) + (-1)) + (-1)))), (.val (.int ((0 + (((XT.ushrL (Int64.ofNat t3.1) (((3 - 1) + (-1)) + (-1))) &&& 1).toInt32)) + (((XT.ushrL (Int64.ofNat t1.1) (((3 - 1) + (-1)) + (-1))) &&& 1).toInt32)))), (.val (.int (0 + 1))), (.val (.int ((0 + 1) + 1))), (.val (.long ((XT.ushrL (Int64.ofNat t2.1) (((3 - 1) + (-1)) + (-1))) &&& 1))), .second] [] [.inl ("com/example/reshelve/reshelve/service/sort/ZCurve", [(("com/example/reshelve/reshelve/service/sort/ZCurve", "dimensions", "I"), (.int (3))), (("com/example/reshelve/reshelve/service/sort/ZCurve", "bits", "I"), (.int (3))), (("com/example/reshelve/reshelve/service/sort/ZCurve", "words", "I"), (.int (1)))]), .inr (.long, [(.long (Int64.ofNat t1.1)), (.long (Int64.ofNat t2.1)), (.long (Int64.ofNat t3.1))]), .inr (.long, [(.long (0))])] _ _ _
      refine W.iload d3_71 rfl ?_
      refine W.bipush 64 d3_73 rfl ?_
      refine W.icmp_ne d3_75 (fun h75 => ?_) (fun h => False.elim (by revert h; decide))
      refine W.iload d3_89 rfl ?_
      refine W.lload d3_91 rfl ?_
      refine W.l2i d3_93 ?_
      refine W.iadd d3_94 ?_
      refine W.istore d3_95 rfl ?_
      refine W.iload d3_97 rfl ?_
      refine W.iconst 1 d3_99 rfl ?_
      refine W.iadd d3_100 ?_
      refine W.aloadN d3_101 rfl rfl ?_
      refine W.getfield 0 d3_102 (hw _ (wd 10 rfl)) rfl rfl ?_
      refine W.icmp_ne d3_105 (fun h105 => ?_) (fun h => False.elim (by revert h; decide))
      refine W.iload d3_112 rfl ?_
      refine W.iconst 1 d3_114 rfl ?_
      refine W.iadd d3_115 ?_
      refine W.istore d3_116 rfl ?_
      refine W.iinc 1 d3_118 rfl rfl ?_
      refine W.goto d3_121 ?_
      show W l Z n m3 41 [(.val (.ref 0)), (.val (.ref 1)), (.val (.ref 2)), (.val (.long (((((((((((((((((((0 : Int64) <<< ((1 : Int32) &&& 0x3f).toInt64) ||| ((XT.ushrL (Int64.ofNat t1.1) (3 - 1)) &&& 1)) <<< ((1 : Int32) &&& 0x3f).toInt64) ||| ((XT.ushrL (Int64.ofNat t2.1) (3 - 1)) &&& 1)) <<< ((1 : Int32) &&& 0x3f).toInt64) ||| ((XT.ushrL (Int64.ofNat t3.1) (3 - 1)) &&& 1)) <<< ((1 : Int32) &&& 0x3f).toInt64) ||| ((XT.ushrL (Int64.ofNat t1.1) ((3 - 1) + (-1))) &&& 1)) <<< ((1 : Int32) &&& 0x3f).toInt64) ||| ((XT.ushrL (Int64.ofNat t2.1) ((3 - 1) + (-1))) &&& 1)) <<< ((1 : Int32) &&& 0x3f).toInt64) ||| ((XT.ushrL (Int64.ofNat t3.1) ((3 - 1) + (-1))) &&& 1)) <<< ((1 : Int32) &&& 0x3f).toInt64) ||| ((XT.ushrL (Int64.ofNat t3.1) (((3 - 1) + (-1)) + (-1))) &&& 1)) <<< ((1 : Int32) &&& 0x3f).toInt64) ||| ((XT.ushrL (Int64.ofNat t1.1) (((3 - 1) + (-1)) + (-1))) &&& 1)) <<< ((1 : Int32) &&& 0x3f).toInt64) ||| ((XT.ushrL (Int64.ofNat t2.1) (((3 - 1) + (-1)) + (-1))) &&& 1)))), .second, (.val (.int (((((((((0 + 1) + 1) + 1) + 1) + 1) + 1) + 1) + 1) + 1))), (.val (.int (0))), (.val (.int (2))), (.val (.int (((3 - 1) + (-1)) + (-1)))), (.val (.int (((0 + (((XT.ushrL (Int64.ofNat t3.1) (((3 - 1) + (-1)) + (-1))) &&& 1).toInt32)) + (((XT.ushrL (Int64.ofNat t1.1) (((3 - 1) + (-1)) + (-1))) &&& 1).toInt32)) + (((XT.ushrL (Int64.ofNat t2.1) (((3 - 1) + (-1)) + (-1))) &&& 1).toInt32)))), (.val (.int ((0 + 1) + 1))), (.val (.int (((0 + 1) + 1) + 1))), (.val (.long ((XT.ushrL (Int64.ofNat t2.1) (((3 - 1) + (-1)) + (-1))) &&& 1))), .second] [] [.inl ("com/example/reshelve/reshelve/service/sort/ZCurve", [(("com/example/reshelve/reshelve/service/sort/ZCurve", "dimensions", "I"), (.int (3))), (("com/example/reshelve/reshelve/service/sort/ZCurve", "bits", "I"), (.int (3))), (("com/example/reshelve/reshelve/service/sort/ZCurve", "words", "I"), (.int (1)))]), .inr (.long, [(.long (Int64.ofNat t1.1)), (.long (Int64.ofNat t2.1)), (.long (Int64.ofNat t3.1))]), .inr (.long, [(.long (0))])] _ _ _
      refine W.iload d3_41 rfl ?_
      refine W.aloadN d3_43 rfl rfl ?_
      refine W.getfield 0 d3_44 (hw _ (wd 10 rfl)) rfl rfl ?_
      refine W.icmp_ge d3_47 (fun h47 => ?_) (fun h => False.elim (by revert h; decide))
      refine W.iload d3_124 rfl ?_
      refine W.iload d3_126 rfl ?_
      refine W.iadd d3_128 ?_
      refine W.istore d3_129 rfl ?_
      show WB _ l Z n m3 131 [(.val (.ref 0)), (.val (.ref 1)), (.val (.ref 2)), (.val (.long (((((((((((((((((((0 : Int64) <<< ((1 : Int32) &&& 0x3f).toInt64) ||| ((XT.ushrL (Int64.ofNat t1.1) (3 - 1)) &&& 1)) <<< ((1 : Int32) &&& 0x3f).toInt64) ||| ((XT.ushrL (Int64.ofNat t2.1) (3 - 1)) &&& 1)) <<< ((1 : Int32) &&& 0x3f).toInt64) ||| ((XT.ushrL (Int64.ofNat t3.1) (3 - 1)) &&& 1)) <<< ((1 : Int32) &&& 0x3f).toInt64) ||| ((XT.ushrL (Int64.ofNat t1.1) ((3 - 1) + (-1))) &&& 1)) <<< ((1 : Int32) &&& 0x3f).toInt64) ||| ((XT.ushrL (Int64.ofNat t2.1) ((3 - 1) + (-1))) &&& 1)) <<< ((1 : Int32) &&& 0x3f).toInt64) ||| ((XT.ushrL (Int64.ofNat t3.1) ((3 - 1) + (-1))) &&& 1)) <<< ((1 : Int32) &&& 0x3f).toInt64) ||| ((XT.ushrL (Int64.ofNat t3.1) (((3 - 1) + (-1)) + (-1))) &&& 1)) <<< ((1 : Int32) &&& 0x3f).toInt64) ||| ((XT.ushrL (Int64.ofNat t1.1) (((3 - 1) + (-1)) + (-1))) &&& 1)) <<< ((1 : Int32) &&& 0x3f).toInt64) ||| ((XT.ushrL (Int64.ofNat t2.1) (((3 - 1) + (-1)) + (-1))) &&& 1)))), .second, (.val (.int (((((((((0 + 1) + 1) + 1) + 1) + 1) + 1) + 1) + 1) + 1))), (.val (.int (0))), (.val (.int (2 + (((0 + (((XT.ushrL (Int64.ofNat t3.1) (((3 - 1) + (-1)) + (-1))) &&& 1).toInt32)) + (((XT.ushrL (Int64.ofNat t1.1) (((3 - 1) + (-1)) + (-1))) &&& 1).toInt32)) + (((XT.ushrL (Int64.ofNat t2.1) (((3 - 1) + (-1)) + (-1))) &&& 1).toInt32))))), (.val (.int (((3 - 1) + (-1)) + (-1)))), (.val (.int (((0 + (((XT.ushrL (Int64.ofNat t3.1) (((3 - 1) + (-1)) + (-1))) &&& 1).toInt32)) + (((XT.ushrL (Int64.ofNat t1.1) (((3 - 1) + (-1)) + (-1))) &&& 1).toInt32)) + (((XT.ushrL (Int64.ofNat t2.1) (((3 - 1) + (-1)) + (-1))) &&& 1).toInt32)))), (.val (.int ((0 + 1) + 1))), (.val (.int (((0 + 1) + 1) + 1))), (.val (.long ((XT.ushrL (Int64.ofNat t2.1) (((3 - 1) + (-1)) + (-1))) &&& 1))), .second] [] [.inl ("com/example/reshelve/reshelve/service/sort/ZCurve", [(("com/example/reshelve/reshelve/service/sort/ZCurve", "dimensions", "I"), (.int (3))), (("com/example/reshelve/reshelve/service/sort/ZCurve", "bits", "I"), (.int (3))), (("com/example/reshelve/reshelve/service/sort/ZCurve", "words", "I"), (.int (1)))]), .inr (.long, [(.long (Int64.ofNat t1.1)), (.long (Int64.ofNat t2.1)), (.long (Int64.ofNat t3.1))]), .inr (.long, [(.long (0))])] _ _ _
      refine W.iload d3_131 rfl ?_
      refine W.aloadN d3_133 rfl rfl ?_
      refine W.getfield 0 d3_134 (hw _ (wd 10 rfl)) rfl rfl ?_
      refine W.icmp_lt d3_137 (fun h137 => ?_) (fun h137 => ?_)
      · refine W.iinc (-1) d3_149 rfl rfl ?_
        refine W.goto d3_152 ?_
        refine W.iload d3_26 rfl ?_
        refine W.if_lt d3_28 (fun h28 => ?_) (fun h => False.elim (by revert h; decide))
        refine W.iload d3_155 rfl ?_
        refine W.if_le d3_157 (fun h => False.elim (by revert h; decide)) (fun h157 => ?_)
        refine W.aloadN d3_160 rfl rfl ?_
        refine W.iload d3_161 rfl ?_
        refine W.lloadN d3_163 rfl ?_
        refine W.bipush 64 d3_164 rfl ?_
        refine W.iload d3_166 rfl ?_
        refine W.isub d3_168 ?_
        refine W.lshl d3_169 ?_
        refine W.lastore (i := 0) d3_170 rfl ⟨by decide, by decide⟩ (by simp) ?_
        refine W.aloadN d3_171 rfl rfl ?_
        exact W.areturn d3_172 rfl rfl rfl (by decide) (by decide) (⟨rfl, by rw [own_k19 t1 t2 t3 q0 q1] <;> rfl⟩)
      · refine W.iload d3_140 rfl ?_
        refine W.aloadN d3_142 rfl rfl ?_
        refine W.getfield 0 d3_143 (hw _ (wd 10 rfl)) rfl rfl ?_
        refine W.isub d3_146 ?_
        refine W.istore d3_147 rfl ?_
        refine W.iinc (-1) d3_149 rfl rfl ?_
        refine W.goto d3_152 ?_
        refine W.iload d3_26 rfl ?_
        refine W.if_lt d3_28 (fun h28 => ?_) (fun h => False.elim (by revert h; decide))
        refine W.iload d3_155 rfl ?_
        refine W.if_le d3_157 (fun h => False.elim (by revert h; decide)) (fun h157 => ?_)
        refine W.aloadN d3_160 rfl rfl ?_
        refine W.iload d3_161 rfl ?_
        refine W.lloadN d3_163 rfl ?_
        refine W.bipush 64 d3_164 rfl ?_
        refine W.iload d3_166 rfl ?_
        refine W.isub d3_168 ?_
        refine W.lshl d3_169 ?_
        refine W.lastore (i := 0) d3_170 rfl ⟨by decide, by decide⟩ (by simp) ?_
        refine W.aloadN d3_171 rfl rfl ?_
        exact W.areturn d3_172 rfl rfl rfl (by decide) (by decide) (⟨rfl, by rw [own_k19 t1 t2 t3 q0 q1] <;> rfl⟩)
    · rw [q1]
      refine W.istore d3_129 rfl ?_
      refine W.iload d3_131 rfl ?_
      refine W.aloadN d3_133 rfl rfl ?_
      refine W.getfield 0 d3_134 (hw _ (wd 10 rfl)) rfl rfl ?_
      refine W.icmp_lt d3_137 (fun h => False.elim (by revert h; decide)) (fun h137 => ?_)
      refine W.iload d3_140 rfl ?_
      refine W.aloadN d3_142 rfl rfl ?_
      refine W.getfield 0 d3_143 (hw _ (wd 10 rfl)) rfl rfl ?_
      refine W.isub d3_146 ?_
      refine W.istore d3_147 rfl ?_
      refine W.iinc (-1) d3_149 rfl rfl ?_
      refine W.goto d3_152 ?_
      refine W.iload d3_26 rfl ?_
      refine W.if_lt d3_28 (fun h => False.elim (by revert h; decide)) (fun h28 => ?_)
      refine W.iconst 0 d3_31 rfl ?_
      refine W.istore d3_32 rfl ?_
      show WB _ l Z n m3 34 [(.val (.ref 0)), (.val (.ref 1)), (.val (.ref 2)), (.val (.long (((((((((((((0 : Int64) <<< ((1 : Int32) &&& 0x3f).toInt64) ||| ((XT.ushrL (Int64.ofNat t1.1) (3 - 1)) &&& 1)) <<< ((1 : Int32) &&& 0x3f).toInt64) ||| ((XT.ushrL (Int64.ofNat t2.1) (3 - 1)) &&& 1)) <<< ((1 : Int32) &&& 0x3f).toInt64) ||| ((XT.ushrL (Int64.ofNat t3.1) (3 - 1)) &&& 1)) <<< ((1 : Int32) &&& 0x3f).toInt64) ||| ((XT.ushrL (Int64.ofNat t1.1) ((3 - 1) + (-1))) &&& 1)) <<< ((1 : Int32) &&& 0x3f).toInt64) ||| ((XT.ushrL (Int64.ofNat t2.1) ((3 - 1) + (-1))) &&& 1)) <<< ((1 : Int32) &&& 0x3f).toInt64) ||| ((XT.ushrL (Int64.ofNat t3.1) ((3 - 1) + (-1))) &&& 1)))), .second, (.val (.int ((((((0 + 1) + 1) + 1) + 1) + 1) + 1))), (.val (.int (0))), (.val (.int (3 - 3))), (.val (.int (((3 - 1) + (-1)) + (-1)))), (.val (.int (0))), (.val (.int (0))), (.val (.int (((0 + 1) + 1) + 1))), (.val (.long ((XT.ushrL (Int64.ofNat t3.1) ((3 - 1) + (-1))) &&& 1))), .second] [] [.inl ("com/example/reshelve/reshelve/service/sort/ZCurve", [(("com/example/reshelve/reshelve/service/sort/ZCurve", "dimensions", "I"), (.int (3))), (("com/example/reshelve/reshelve/service/sort/ZCurve", "bits", "I"), (.int (3))), (("com/example/reshelve/reshelve/service/sort/ZCurve", "words", "I"), (.int (1)))]), .inr (.long, [(.long (Int64.ofNat t1.1)), (.long (Int64.ofNat t2.1)), (.long (Int64.ofNat t3.1))]), .inr (.long, [(.long (0))])] _ _ _
      refine W.iload d3_34 rfl ?_
      refine W.istore d3_36 rfl ?_
      refine W.iconst 0 d3_38 rfl ?_
      refine W.istore d3_39 rfl ?_
      show W l Z n m3 41 [(.val (.ref 0)), (.val (.ref 1)), (.val (.ref 2)), (.val (.long (((((((((((((0 : Int64) <<< ((1 : Int32) &&& 0x3f).toInt64) ||| ((XT.ushrL (Int64.ofNat t1.1) (3 - 1)) &&& 1)) <<< ((1 : Int32) &&& 0x3f).toInt64) ||| ((XT.ushrL (Int64.ofNat t2.1) (3 - 1)) &&& 1)) <<< ((1 : Int32) &&& 0x3f).toInt64) ||| ((XT.ushrL (Int64.ofNat t3.1) (3 - 1)) &&& 1)) <<< ((1 : Int32) &&& 0x3f).toInt64) ||| ((XT.ushrL (Int64.ofNat t1.1) ((3 - 1) + (-1))) &&& 1)) <<< ((1 : Int32) &&& 0x3f).toInt64) ||| ((XT.ushrL (Int64.ofNat t2.1) ((3 - 1) + (-1))) &&& 1)) <<< ((1 : Int32) &&& 0x3f).toInt64) ||| ((XT.ushrL (Int64.ofNat t3.1) ((3 - 1) + (-1))) &&& 1)))), .second, (.val (.int ((((((0 + 1) + 1) + 1) + 1) + 1) + 1))), (.val (.int (0))), (.val (.int (3 - 3))), (.val (.int (((3 - 1) + (-1)) + (-1)))), (.val (.int (0))), (.val (.int (3 - 3))), (.val (.int (0))), (.val (.long ((XT.ushrL (Int64.ofNat t3.1) ((3 - 1) + (-1))) &&& 1))), .second] [] [.inl ("com/example/reshelve/reshelve/service/sort/ZCurve", [(("com/example/reshelve/reshelve/service/sort/ZCurve", "dimensions", "I"), (.int (3))), (("com/example/reshelve/reshelve/service/sort/ZCurve", "bits", "I"), (.int (3))), (("com/example/reshelve/reshelve/service/sort/ZCurve", "words", "I"), (.int (1)))]), .inr (.long, [(.long (Int64.ofNat t1.1)), (.long (Int64.ofNat t2.1)), (.long (Int64.ofNat t3.1))]), .inr (.long, [(.long (0))])] _ _ _
      refine W.iload d3_41 rfl ?_
      refine W.aloadN d3_43 rfl rfl ?_
      refine W.getfield 0 d3_44 (hw _ (wd 10 rfl)) rfl rfl ?_
      refine W.icmp_ge d3_47 (fun h => False.elim (by revert h; decide)) (fun h47 => ?_)
      refine W.aloadN d3_50 rfl rfl ?_
      refine W.iload d3_51 rfl ?_
      refine W.laload (i := 0) d3_53 rfl ⟨by decide, by decide⟩ rfl ?_
      refine W.iload d3_54 rfl ?_
      refine W.lushr d3_56 ?_
      refine W.lconst 1 d3_57 rfl ?_
      refine W.land d3_58 ?_
      refine W.lstore d3_59 rfl ?_
      refine W.lloadN d3_61 rfl ?_
      refine W.iconst 1 d3_62 rfl ?_
      refine W.lshl d3_63 ?_
      refine W.lload d3_64 rfl ?_
      refine W.lor d3_66 ?_
      refine W.lstoreN d3_67 rfl ?_
      show WB _ l Z n m3 68 [(.val (.ref 0)), (.val (.ref 1)), (.val (.ref 2)), (.val (.long (((((((((((((((0 : Int64) <<< ((1 : Int32) &&& 0x3f).toInt64) ||| ((XT.ushrL (Int64.ofNat t1.1) (3 - 1)) &&& 1)) <<< ((1 : Int32) &&& 0x3f).toInt64) ||| ((XT.ushrL (Int64.ofNat t2.1) (3 - 1)) &&& 1)) <<< ((1 : Int32) &&& 0x3f).toInt64) ||| ((XT.ushrL (Int64.ofNat t3.1) (3 - 1)) &&& 1)) <<< ((1 : Int32) &&& 0x3f).toInt64) ||| ((XT.ushrL (Int64.ofNat t1.1) ((3 - 1) + (-1))) &&& 1)) <<< ((1 : Int32) &&& 0x3f).toInt64) ||| ((XT.ushrL (Int64.ofNat t2.1) ((3 - 1) + (-1))) &&& 1)) <<< ((1 : Int32) &&& 0x3f).toInt64) ||| ((XT.ushrL (Int64.ofNat t3.1) ((3 - 1) + (-1))) &&& 1)) <<< ((1 : Int32) &&& 0x3f).toInt64) ||| ((XT.ushrL (Int64.ofNat t1.1) (((3 - 1) + (-1)) + (-1))) &&& 1)))), .second, (.val (.int ((((((0 + 1) + 1) + 1) + 1) + 1) + 1))), (.val (.int (0))), (.val (.int (3 - 3))), (.val (.int (((3 - 1) + (-1)) + (-1)))), (.val (.int (0))), (.val (.int (3 - 3))), (.val (.int (0))), (.val (.long ((XT.ushrL (Int64.ofNat t1.1) (((3 - 1) + (-1)) + (-1))) &&& 1))), .second] [] [.inl ("com/example/reshelve/reshelve/service/sort/ZCurve", [(("com/example/reshelve/reshelve/service/sort/ZCurve", "dimensions", "I"), (.int (3))), (("com/example/reshelve/reshelve/service/sort/ZCurve", "bits", "I"), (.int (3))), (("com/example/reshelve/reshelve/service/sort/ZCurve", "words", "I"), (.int (1)))]), .inr (.long, [(.long (Int64.ofNat t1.1)), (.long (Int64.ofNat t2.1)), (.long (Int64.ofNat t3.1))]), .inr (.long, [(.long (0))])] _ _ _
      refine W.iinc 1 d3_68 rfl rfl ?_
      refine W.iload d3_71 rfl ?_
      refine W.bipush 64 d3_73 rfl ?_
      refine W.icmp_ne d3_75 (fun h75 => ?_) (fun h => False.elim (by revert h; decide))
      refine W.iload d3_89 rfl ?_
      refine W.lload d3_91 rfl ?_
      refine W.l2i d3_93 ?_
      refine W.iadd d3_94 ?_
      refine W.istore d3_95 rfl ?_
      refine W.iload d3_97 rfl ?_
      refine W.iconst 1 d3_99 rfl ?_
      refine W.iadd d3_100 ?_
      refine W.aloadN d3_101 rfl rfl ?_
      refine W.getfield 0 d3_102 (hw _ (wd 10 rfl)) rfl rfl ?_
      refine W.icmp_ne d3_105 (fun h105 => ?_) (fun h => False.elim (by revert h; decide))
      refine W.iload d3_112 rfl ?_
      refine W.iconst 1 d3_114 rfl ?_
      refine W.iadd d3_115 ?_
      refine W.istore d3_116 rfl ?_
      refine W.iinc 1 d3_118 rfl rfl ?_
      show WB _ l Z n m3 121 [(.val (.ref 0)), (.val (.ref 1)), (.val (.ref 2)), (.val (.long (((((((((((((((0 : Int64) <<< ((1 : Int32) &&& 0x3f).toInt64) ||| ((XT.ushrL (Int64.ofNat t1.1) (3 - 1)) &&& 1)) <<< ((1 : Int32) &&& 0x3f).toInt64) ||| ((XT.ushrL (Int64.ofNat t2.1) (3 - 1)) &&& 1)) <<< ((1 : Int32) &&& 0x3f).toInt64) ||| ((XT.ushrL (Int64.ofNat t3.1) (3 - 1)) &&& 1)) <<< ((1 : Int32) &&& 0x3f).toInt64) ||| ((XT.ushrL (Int64.ofNat t1.1) ((3 - 1) + (-1))) &&& 1)) <<< ((1 : Int32) &&& 0x3f).toInt64) ||| ((XT.ushrL (Int64.ofNat t2.1) ((3 - 1) + (-1))) &&& 1)) <<< ((1 : Int32) &&& 0x3f).toInt64) ||| ((XT.ushrL (Int64.ofNat t3.1) ((3 - 1) + (-1))) &&& 1)) <<< ((1 : Int32) &&& 0x3f).toInt64) ||| ((XT.ushrL (Int64.ofNat t1.1) (((3 - 1) + (-1)) + (-1))) &&& 1)))), .second, (.val (.int (((((((0 + 1) + 1) + 1) + 1) + 1) + 1) + 1))), (.val (.int (0))), (.val (.int (3 - 3))), (.val (.int (((3 - 1) + (-1)) + (-1)))), (.val (.int (0 + (((XT.ushrL (Int64.ofNat t1.1) (((3 - 1) + (-1)) + (-1))) &&& 1).toInt32)))), (.val (.int ((3 - 3) + 1))), (.val (.int (0 + 1))), (.val (.long ((XT.ushrL (Int64.ofNat t1.1) (((3 - 1) + (-1)) + (-1))) &&& 1))), .second] [] [.inl ("com/example/reshelve/reshelve/service/sort/ZCurve", [(("com/example/reshelve/reshelve/service/sort/ZCurve", "dimensions", "I"), (.int (3))), (("com/example/reshelve/reshelve/service/sort/ZCurve", "bits", "I"), (.int (3))), (("com/example/reshelve/reshelve/service/sort/ZCurve", "words", "I"), (.int (1)))]), .inr (.long, [(.long (Int64.ofNat t1.1)), (.long (Int64.ofNat t2.1)), (.long (Int64.ofNat t3.1))]), .inr (.long, [(.long (0))])] _ _ _
      refine W.goto d3_121 ?_
      show W l Z n m3 41 [(.val (.ref 0)), (.val (.ref 1)), (.val (.ref 2)), (.val (.long (((((((((((((((0 : Int64) <<< ((1 : Int32) &&& 0x3f).toInt64) ||| ((XT.ushrL (Int64.ofNat t1.1) (3 - 1)) &&& 1)) <<< ((1 : Int32) &&& 0x3f).toInt64) ||| ((XT.ushrL (Int64.ofNat t2.1) (3 - 1)) &&& 1)) <<< ((1 : Int32) &&& 0x3f).toInt64) ||| ((XT.ushrL (Int64.ofNat t3.1) (3 - 1)) &&& 1)) <<< ((1 : Int32) &&& 0x3f).toInt64) ||| ((XT.ushrL (Int64.ofNat t1.1) ((3 - 1) + (-1))) &&& 1)) <<< ((1 : Int32) &&& 0x3f).toInt64) ||| ((XT.ushrL (Int64.ofNat t2.1) ((3 - 1) + (-1))) &&& 1)) <<< ((1 : Int32) &&& 0x3f).toInt64) ||| ((XT.ushrL (Int64.ofNat t3.1) ((3 - 1) + (-1))) &&& 1)) <<< ((1 : Int32) &&& 0x3f).toInt64) ||| ((XT.ushrL (Int64.ofNat t1.1) (((3 - 1) + (-1)) + (-1))) &&& 1)))), .second, (.val (.int (((((((0 + 1) + 1) + 1) + 1) + 1) + 1) + 1))), (.val (.int (0))), (.val (.int (3 - 3))), (.val (.int (((3 - 1) + (-1)) + (-1)))), (.val (.int (0 + (((XT.ushrL (Int64.ofNat t1.1) (((3 - 1) + (-1)) + (-1))) &&& 1).toInt32)))), (.val (.int ((3 - 3) + 1))), (.val (.int (0 + 1))), (.val (.long ((XT.ushrL (Int64.ofNat t1.1) (((3 - 1) + (-1)) + (-1))) &&& 1))), .second] [] [.inl ("com/example/reshelve/reshelve/service/sort/ZCurve", [(("com/example/reshelve/reshelve/service/sort/ZCurve", "dimensions", "I"), (.int (3))), (("com/example/reshelve/reshelve/service/sort/ZCurve", "bits", "I"), (.int (3))), (("com/example/reshelve/reshelve/service/sort/ZCurve", "words", "I"), (.int (1)))]), .inr (.long, [(.long (Int64.ofNat t1.1)), (.long (Int64.ofNat t2.1)), (.long (Int64.ofNat t3.1))]), .inr (.long, [(.long (0))])] _ _ _
      refine W.iload d3_41 rfl ?_
      refine W.aloadN d3_43 rfl rfl ?_
      refine W.getfield 0 d3_44 (hw _ (wd 10 rfl)) rfl rfl ?_
      refine W.icmp_ge d3_47 (fun h => False.elim (by revert h; decide)) (fun h47 => ?_)
      refine W.aloadN d3_50 rfl rfl ?_
      refine W.iload d3_51 rfl ?_
      refine W.laload (i := 1) d3_53 rfl ⟨by decide, by decide⟩ rfl ?_
      refine W.iload d3_54 rfl ?_
      refine W.lushr d3_56 ?_
      refine W.lconst 1 d3_57 rfl ?_
      refine W.land d3_58 ?_
      refine W.lstore d3_59 rfl ?_
      refine W.lloadN d3_61 rfl ?_
      refine W.iconst 1 d3_62 rfl ?_
      refine W.lshl d3_63 ?_
      refine W.lload d3_64 rfl ?_
      refine W.lor d3_66 ?_
      refine W.lstoreN d3_67 rfl ?_
      refine W.iinc 1 d3_68 rfl rfl ?_
      refine W.iload d3_71 rfl ?_
      refine W.bipush 64 d3_73 rfl ?_
      refine W.icmp_ne d3_75 (fun h75 => ?_) (fun h => False.elim (by revert h; decide))
      refine W.iload d3_89 rfl ?_
      refine W.lload d3_91 rfl ?_
      refine W.l2i d3_93 ?_
      refine W.iadd d3_94 ?_
      refine W.istore d3_95 rfl ?_
      show WB _ l Z n m3 97 [(.val (.ref 0)), (.val (.ref 1)), (.val (.ref 2)), (.val (.long (((((((((((((((((0 : Int64) <<< ((1 : Int32) &&& 0x3f).toInt64) ||| ((XT.ushrL (Int64.ofNat t1.1) (3 - 1)) &&& 1)) <<< ((1 : Int32) &&& 0x3f).toInt64) ||| ((XT.ushrL (Int64.ofNat t2.1) (3 - 1)) &&& 1)) <<< ((1 : Int32) &&& 0x3f).toInt64) ||| ((XT.ushrL (Int64.ofNat t3.1) (3 - 1)) &&& 1)) <<< ((1 : Int32) &&& 0x3f).toInt64) ||| ((XT.ushrL (Int64.ofNat t1.1) ((3 - 1) + (-1))) &&& 1)) <<< ((1 : Int32) &&& 0x3f).toInt64) ||| ((XT.ushrL (Int64.ofNat t2.1) ((3 - 1) + (-1))) &&& 1)) <<< ((1 : Int32) &&& 0x3f).toInt64) ||| ((XT.ushrL (Int64.ofNat t3.1) ((3 - 1) + (-1))) &&& 1)) <<< ((1 : Int32) &&& 0x3f).toInt64) ||| ((XT.ushrL (Int64.ofNat t1.1) (((3 - 1) + (-1)) + (-1))) &&& 1)) <<< ((1 : Int32) &&& 0x3f).toInt64) ||| ((XT.ushrL (Int64.ofNat t2.1) (((3 - 1) + (-1)) + (-1))) &&& 1)))), .second, (.val (.int ((((((((0 + 1) + 1) + 1) + 1) + 1) + 1) + 1) + 1))), (.val (.int (0))), (.val (.int (3 - 3))), (.val (.int (((3 - 1) + (-1)) + (-1)))), (.val (.int ((0 + (((XT.ushrL (Int64.ofNat t1.1) (((3 - 1) + (-1)) + (-1))) &&& 1).toInt32)) + (((XT.ushrL (Int64.ofNat t2.1) (((3 - 1) + (-1)) + (-1))) &&& 1).toInt32)))), (.val (.int ((3 - 3) + 1))), (.val (.int (0 + 1))), (.val (.long ((XT.ushrL (Int64.ofNat t2.1) (((3 - 1) + (-1)) + (-1))) &&& 1))), .second] [] [.inl ("com/example/reshelve/reshelve/service/sort/ZCurve", [(("com/example/reshelve/reshelve/service/sort/ZCurve", "dimensions", "I"), (.int (3))), (("com/example/reshelve/reshelve/service/sort/ZCurve", "bits", "I"), (.int (3))), (("com/example/reshelve/reshelve/service/sort/ZCurve", "words", "I"), (.int (1)))]), .inr (.long, [(.long (Int64.ofNat t1.1)), (.long (Int64.ofNat t2.1)), (.long (Int64.ofNat t3.1))]), .inr (.long, [(.long (0))])] _ _ _
      refine W.iload d3_97 rfl ?_
      refine W.iconst 1 d3_99 rfl ?_
      refine W.iadd d3_100 ?_
      refine W.aloadN d3_101 rfl rfl ?_
      refine W.getfield 0 d3_102 (hw _ (wd 10 rfl)) rfl rfl ?_
      refine W.icmp_ne d3_105 (fun h105 => ?_) (fun h => False.elim (by revert h; decide))
      refine W.iload d3_112 rfl ?_
      refine W.iconst 1 d3_114 rfl ?_
      refine W.iadd d3_115 ?_
      refine W.istore d3_116 rfl ?_
      refine W.iinc 1 d3_118 rfl rfl ?_
      refine W.goto d3_121 ?_
      show W l Z n m3 41 [(.val (.ref 0)), (.val (.ref 1)), (.val (.ref 2)), (.val (.long (((((((((((((((((0 : Int64) <<< ((1 : Int32) &&& 0x3f).toInt64) ||| ((XT.ushrL (Int64.ofNat t1.1) (3 - 1)) &&& 1)) <<< ((1 : Int32) &&& 0x3f).toInt64) ||| ((XT.ushrL (Int64.ofNat t2.1) (3 - 1)) &&& 1)) <<< ((1 : Int32) &&& 0x3f).toInt64) ||| ((XT.ushrL (Int64.ofNat t3.1) (3 - 1)) &&& 1)) <<< ((1 : Int32) &&& 0x3f).toInt64) ||| ((XT.ushrL (Int64.ofNat t1.1) ((3 - 1) + (-1))) &&& 1)) <<< ((1 : Int32) &&& 0x3f).toInt64) ||| ((XT.ushrL (Int64.ofNat t2.1) ((3 - 1) + (-1))) &&& 1)) <<< ((1 : Int32) &&& 0x3f).toInt64) ||| ((XT.ushrL (Int64.ofNat t3.1) ((3 - 1) + (-1))) &&& 1)) <<< ((1 : Int32) &&& 0x3f).toInt64) ||| ((XT.ushrL (Int64.ofNat t1.1) (((3 - 1) + (-1)) + (-1))) &&& 1)) <<< ((1 : Int32) &&& 0x3f).toInt64) ||| ((XT.ushrL (Int64.ofNat t2.1) (((3 - 1) + (-1)) + (-1))) &&& 1)))), .second, (.val (.int ((((((((0 + 1) + 1) + 1) + 1) + 1) + 1) + 1) + 1))), (.val (.int (0))), (.val (.int (3 - 3))), (.val (.int (((3 - 1) + (-1)) + (-1)))), (.val (.int ((0 + (((XT.ushrL (Int64.ofNat t1.1) (((3 - 1) + (-1)) + (-1))) &&& 1).toInt32)) + (((XT.ushrL (Int64.ofNat t2.1) (((3 - 1) + (-1)) + (-1))) &&& 1).toInt32)))), (.val (.int (((3 - 3) + 1) + 1))), (.val (.int ((0 + 1) + 1))), (.val (.long ((XT.ushrL (Int64.ofNat t2.1) (((3 - 1) + (-1)) + (-1))) &&& 1))), .second] [] [.inl ("com/example/reshelve/reshelve/service/sort/ZCurve", [(("com/example/reshelve/reshelve/service/sort/ZCurve", "dimensions", "I"), (.int (3))), (("com/example/reshelve/reshelve/service/sort/ZCurve", "bits", "I"), (.int (3))), (("com/example/reshelve/reshelve/service/sort/ZCurve", "words", "I"), (.int (1)))]), .inr (.long, [(.long (Int64.ofNat t1.1)), (.long (Int64.ofNat t2.1)), (.long (Int64.ofNat t3.1))]), .inr (.long, [(.long (0))])] _ _ _
      refine W.iload d3_41 rfl ?_
      refine W.aloadN d3_43 rfl rfl ?_
      refine W.getfield 0 d3_44 (hw _ (wd 10 rfl)) rfl rfl ?_
      refine W.icmp_ge d3_47 (fun h => False.elim (by revert h; decide)) (fun h47 => ?_)
      refine W.aloadN d3_50 rfl rfl ?_
      refine W.iload d3_51 rfl ?_
      refine W.laload (i := 2) d3_53 rfl ⟨by decide, by decide⟩ rfl ?_
      refine W.iload d3_54 rfl ?_
      refine W.lushr d3_56 ?_
      refine W.lconst 1 d3_57 rfl ?_
      refine W.land d3_58 ?_
      refine W.lstore d3_59 rfl ?_
      refine W.lloadN d3_61 rfl ?_
      refine W.iconst 1 d3_62 rfl ?_
      refine W.lshl d3_63 ?_
      refine W.lload d3_64 rfl ?_
      refine W.lor d3_66 ?_
      refine W.lstoreN d3_67 rfl ?_
      show WB _ l Z n m3 68 [(.val (.ref 0)), (.val (.ref 1)), (.val (.ref 2)), (.val (.long (((((((((((((((((((0 : Int64) <<< ((1 : Int32) &&& 0x3f).toInt64) ||| ((XT.ushrL (Int64.ofNat t1.1) (3 - 1)) &&& 1)) <<< ((1 : Int32) &&& 0x3f).toInt64) ||| ((XT.ushrL (Int64.ofNat t2.1) (3 - 1)) &&& 1)) <<< ((1 : Int32) &&& 0x3f).toInt64) ||| ((XT.ushrL (Int64.ofNat t3.1) (3 - 1)) &&& 1)) <<< ((1 : Int32) &&& 0x3f).toInt64) ||| ((XT.ushrL (Int64.ofNat t1.1) ((3 - 1) + (-1))) &&& 1)) <<< ((1 : Int32) &&& 0x3f).toInt64) ||| ((XT.ushrL (Int64.ofNat t2.1) ((3 - 1) + (-1))) &&& 1)) <<< ((1 : Int32) &&& 0x3f).toInt64) ||| ((XT.ushrL (Int64.ofNat t3.1) ((3 - 1) + (-1))) &&& 1)) <<< ((1 : Int32) &&& 0x3f).toInt64) ||| ((XT.ushrL (Int64.ofNat t1.1) (((3 - 1) + (-1)) + (-1))) &&& 1)) <<< ((1 : Int32) &&& 0x3f).toInt64) ||| ((XT.ushrL (Int64.ofNat t2.1) (((3 - 1) + (-1)) + (-1))) &&& 1)) <<< ((1 : Int32) &&& 0x3f).toInt64) ||| ((XT.ushrL (Int64.ofNat t3.1) (((3 - 1) + (-1)) + (-1))) &&& 1)))), .second, (.val (.int ((((((((0 + 1) + 1) + 1) + 1) + 1) + 1) + 1) + 1))), (.val (.int (0))), (.val (.int (3 - 3))), (.val (.int (((3 - 1) + (-1)) + (-1)))), (.val (.int ((0 + (((XT.ushrL (Int64.ofNat t1.1) (((3 - 1) + (-1)) + (-1))) &&& 1).toInt32)) + (((XT.ushrL (Int64.ofNat t2.1) (((3 - 1) + (-1)) + (-1))) &&& 1).toInt32)))), (.val (.int (((3 - 3) + 1) + 1))), (.val (.int ((0 + 1) + 1))), (.val (.long ((XT.ushrL (Int64.ofNat t3.1) (((3 - 1) + (-1)) + (-1))) &&& 1))), .second] [] [.inl ("com/example/reshelve/reshelve/service/sort/ZCurve", [(("com/example/reshelve/reshelve/service/sort/ZCurve", "dimensions", "I"), (.int (3))), (("com/example/reshelve/reshelve/service/sort/ZCurve", "bits", "I"), (.int (3))), (("com/example/reshelve/reshelve/service/sort/ZCurve", "words", "I"), (.int (1)))]), .inr (.long, [(.long (Int64.ofNat t1.1)), (.long (Int64.ofNat t2.1)), (.long (Int64.ofNat t3.1))]), .inr (.long, [(.long (0))])] _ _ _
      refine W.iinc 1 d3_68 rfl rfl ?_
      refine W.iload d3_71 rfl ?_
      refine W.bipush 64 d3_73 rfl ?_
      refine W.icmp_ne d3_75 (fun h75 => ?_) (fun h => False.elim (by revert h; decide))
      refine W.iload d3_89 rfl ?_
      refine W.lload d3_91 rfl ?_
      refine W.l2i d3_93 ?_
      refine W.iadd d3_94 ?_
      refine W.istore d3_95 rfl ?_
      refine W.iload d3_97 rfl ?_
      refine W.iconst 1 d3_99 rfl ?_
      refine W.iadd d3_100 ?_
      refine W.aloadN d3_101 rfl rfl ?_
      refine W.getfield 0 d3_102 (hw _ (wd 10 rfl)) rfl rfl ?_
      refine W.icmp_ne d3_105 (fun h => False.elim (by revert h; decide)) (fun h105 => ?_)
      refine W.iconst 0 d3_108 rfl ?_
      refine W.goto d3_109 ?_
      refine W.istore d3_116 rfl ?_
      refine W.iinc 1 d3_118 rfl rfl ?_
      show WB _ l Z n m3 121 [(.val (.ref 0)), (.val (.ref 1)), (.val (.ref 2)), (.val (.long (((((((((((((((((((0 : Int64) <<< ((1 : Int32) &&& 0x3f).toInt64) ||| ((XT.ushrL (Int64.ofNat t1.1) (3 - 1)) &&& 1)) <<< ((1 : Int32) &&& 0x3f).toInt64) ||| ((XT.ushrL (Int64.ofNat t2.1) (3 - 1)) &&& 1)) <<< ((1 : Int32) &&& 0x3f).toInt64) ||| ((XT.ushrL (Int64.ofNat t3.1) (3 - 1)) &&& 1)) <<< ((1 : Int32) &&& 0x3f).toInt64) ||| ((XT.ushrL (Int64.ofNat t1.1) ((3 - 1) + (-1))) &&& 1)) <<< ((1 : Int32) &&& 0x3f).toInt64) ||| ((XT.ushrL (Int64.ofNat t2.1) ((3 - 1) + (-1))) &&& 1)) <<< ((1 : Int32) &&& 0x3f).toInt64) ||| ((XT.ushrL (Int64.ofNat t3.1) ((3 - 1) + (-1))) &&& 1)) <<< ((1 : Int32) &&& 0x3f).toInt64) ||| ((XT.ushrL (Int64.ofNat t1.1) (((3 - 1) + (-1)) + (-1))) &&& 1)) <<< ((1 : Int32) &&& 0x3f).toInt64) ||| ((XT.ushrL (Int64.ofNat t2.1) (((3 - 1) + (-1)) + (-1))) &&& 1)) <<< ((1 : Int32) &&& 0x3f).toInt64) ||| ((XT.ushrL (Int64.ofNat t3.1) (((3 - 1) + (-1)) + (-1))) &&& 1)))), .second, (.val (.int (((((((((0 + 1) + 1) + 1) + 1) + 1) + 1) + 1) + 1) + 1))), (.val (.int (0))), (.val (.int (3 - 3))), (.val (.int (((3 - 1) + (-1)) + (-1)))), (.val (.int (((0 + (((XT.ushrL (Int64.ofNat t1.1) (((3 - 1) + (-1)) + (-1))) &&& 1).toInt32)) + (((XT.ushrL (Int64.ofNat t2.1) (((3 - 1) + (-1)) + (-1))) &&& 1).toInt32)) + (((XT.ushrL (Int64.ofNat t3.1) (((3 - 1) + (-1)) + (-1))) &&& 1).toInt32)))), (.val (.int (0))), (.val (.int (((0 + 1) + 1) + 1))), (.val (.long ((XT.ushrL (Int64.ofNat t3.1) (((3 - 1) + (-1)) + (-1))) &&& 1))), .second] [] [.inl ("com/example/reshelve/reshelve/service/sort/ZCurve", [(("com/example/reshelve/reshelve/service/sort/ZCurve", "dimensions", "I"), (.int (3))), (("com/example/reshelve/reshelve/service/sort/ZCurve", "bits", "I"), (.int (3))), (("com/example/reshelve/reshelve/service/sort/ZCurve", "words", "I"), (.int (1)))]), .inr (.long, [(.long (Int64.ofNat t1.1)), (.long (Int64.ofNat t2.1)), (.long (Int64.ofNat t3.1))]), .inr (.long, [(.long (0))])] _ _ _
      refine W.goto d3_121 ?_
      show W l Z n m3 41 [(.val (.ref 0)), (.val (.ref 1)), (.val (.ref 2)), (.val (.long (((((((((((((((((((0 : Int64) <<< ((1 : Int32) &&& 0x3f).toInt64) ||| ((XT.ushrL (Int64.ofNat t1.1) (3 - 1)) &&& 1)) <<< ((1 : Int32) &&& 0x3f).toInt64) ||| ((XT.ushrL (Int64.ofNat t2.1) (3 - 1)) &&& 1)) <<< ((1 : Int32) &&& 0x3f).toInt64) ||| ((XT.ushrL (Int64.ofNat t3.1) (3 - 1)) &&& 1)) <<< ((1 : Int32) &&& 0x3f).toInt64) ||| ((XT.ushrL (Int64.ofNat t1.1) ((3 - 1) + (-1))) &&& 1)) <<< ((1 : Int32) &&& 0x3f).toInt64) ||| ((XT.ushrL (Int64.ofNat t2.1) ((3 - 1) + (-1))) &&& 1)) <<< ((1 : Int32) &&& 0x3f).toInt64) ||| ((XT.ushrL (Int64.ofNat t3.1) ((3 - 1) + (-1))) &&& 1)) <<< ((1 : Int32) &&& 0x3f).toInt64) ||| ((XT.ushrL (Int64.ofNat t1.1) (((3 - 1) + (-1)) + (-1))) &&& 1)) <<< ((1 : Int32) &&& 0x3f).toInt64) ||| ((XT.ushrL (Int64.ofNat t2.1) (((3 - 1) + (-1)) + (-1))) &&& 1)) <<< ((1 : Int32) &&& 0x3f).toInt64) ||| ((XT.ushrL (Int64.ofNat t3.1) (((3 - 1) + (-1)) + (-1))) &&& 1)))), .second, (.val (.int (((((((((0 + 1) + 1) + 1) + 1) + 1) + 1) + 1) + 1) + 1))), (.val (.int (0))), (.val (.int (3 - 3))), (.val (.int (((3 - 1) + (-1)) + (-1)))), (.val (.int (((0 + (((XT.ushrL (Int64.ofNat t1.1) (((3 - 1) + (-1)) + (-1))) &&& 1).toInt32)) + (((XT.ushrL (Int64.ofNat t2.1) (((3 - 1) + (-1)) + (-1))) &&& 1).toInt32)) + (((XT.ushrL (Int64.ofNat t3.1) (((3 - 1) + (-1)) + (-1))) &&& 1).toInt32)))), (.val (.int (0))), (.val (.int (((0 + 1) + 1) + 1))), (.val (.long ((XT.ushrL (Int64.ofNat t3.1) (((3 - 1) + (-1)) + (-1))) &&& 1))), .second] [] [.inl ("com/example/reshelve/reshelve/service/sort/ZCurve", [(("com/example/reshelve/reshelve/service/sort/ZCurve", "dimensions", "I"), (.int (3))), (("com/example/reshelve/reshelve/service/sort/ZCurve", "bits", "I"), (.int (3))), (("com/example/reshelve/reshelve/service/sort/ZCurve", "words", "I"), (.int (1)))]), .inr (.long, [(.long (Int64.ofNat t1.1)), (.long (Int64.ofNat t2.1)), (.long (Int64.ofNat t3.1))]), .inr (.long, [(.long (0))])] _ _ _
      refine W.iload d3_41 rfl ?_
      refine W.aloadN d3_43 rfl rfl ?_
      refine W.getfield 0 d3_44 (hw _ (wd 10 rfl)) rfl rfl ?_
      refine W.icmp_ge d3_47 (fun h47 => ?_) (fun h => False.elim (by revert h; decide))
      refine W.iload d3_124 rfl ?_
      refine W.iload d3_126 rfl ?_
      refine W.iadd d3_128 ?_
      refine W.istore d3_129 rfl ?_
      refine W.iload d3_131 rfl ?_
      refine W.aloadN d3_133 rfl rfl ?_
      refine W.getfield 0 d3_134 (hw _ (wd 10 rfl)) rfl rfl ?_
      refine W.icmp_lt d3_137 (fun h137 => ?_) (fun h137 => ?_)
      · refine W.iinc (-1) d3_149 rfl rfl ?_
        refine W.goto d3_152 ?_
        refine W.iload d3_26 rfl ?_
        refine W.if_lt d3_28 (fun h28 => ?_) (fun h => False.elim (by revert h; decide))
        refine W.iload d3_155 rfl ?_
        refine W.if_le d3_157 (fun h => False.elim (by revert h; decide)) (fun h157 => ?_)
        refine W.aloadN d3_160 rfl rfl ?_
        refine W.iload d3_161 rfl ?_
        refine W.lloadN d3_163 rfl ?_
        refine W.bipush 64 d3_164 rfl ?_
        refine W.iload d3_166 rfl ?_
        refine W.isub d3_168 ?_
        refine W.lshl d3_169 ?_
        refine W.lastore (i := 0) d3_170 rfl ⟨by decide, by decide⟩ (by simp) ?_
        refine W.aloadN d3_171 rfl rfl ?_
        exact W.areturn d3_172 rfl rfl rfl (by decide) (by decide) (⟨rfl, by rw [own_k20 t1 t2 t3 q0 q1] <;> rfl⟩)
      · refine W.iload d3_140 rfl ?_
        refine W.aloadN d3_142 rfl rfl ?_
        refine W.getfield 0 d3_143 (hw _ (wd 10 rfl)) rfl rfl ?_
        refine W.isub d3_146 ?_
        refine W.istore d3_147 rfl ?_
        refine W.iinc (-1) d3_149 rfl rfl ?_
        refine W.goto d3_152 ?_
        refine W.iload d3_26 rfl ?_
        refine W.if_lt d3_28 (fun h28 => ?_) (fun h => False.elim (by revert h; decide))
        refine W.iload d3_155 rfl ?_
        refine W.if_le d3_157 (fun h => False.elim (by revert h; decide)) (fun h157 => ?_)
        refine W.aloadN d3_160 rfl rfl ?_
        refine W.iload d3_161 rfl ?_
        refine W.lloadN d3_163 rfl ?_
        refine W.bipush 64 d3_164 rfl ?_
        refine W.iload d3_166 rfl ?_
        refine W.isub d3_168 ?_
        refine W.lshl d3_169 ?_
        refine W.lastore (i := 0) d3_170 rfl ⟨by decide, by decide⟩ (by simp) ?_
        show WB _ l Z n m3 171 [(.val (.ref 0)), (.val (.ref 1)), (.val (.ref 2)), (.val (.long (((((((((((((((((((0 : Int64) <<< ((1 : Int32) &&& 0x3f).toInt64) ||| ((XT.ushrL (Int64.ofNat t1.1) (3 - 1)) &&& 1)) <<< ((1 : Int32) &&& 0x3f).toInt64) ||| ((XT.ushrL (Int64.ofNat t2.1) (3 - 1)) &&& 1)) <<< ((1 : Int32) &&& 0x3f).toInt64) ||| ((XT.ushrL (Int64.ofNat t3.1) (3 - 1)) &&& 1)) <<< ((1 : Int32) &&& 0x3f).toInt64) ||| ((XT.ushrL (Int64.ofNat t1.1) ((3 - 1) + (-1))) &&& 1)) <<< ((1 : Int32) &&& 0x3f).toInt64) ||| ((XT.ushrL (Int64.ofNat t2.1) ((3 - 1) + (-1))) &&& 1)) <<< ((1 : Int32) &&& 0x3f).toInt64) ||| ((XT.ushrL (Int64.ofNat t3.1) ((3 - 1) + (-1))) &&& 1)) <<< ((1 : Int32) &&& 0x3f).toInt64) ||| ((XT.ushrL (Int64.ofNat t1.1) (((3 - 1) + (-1)) + (-1))) &&& 1)) <<< ((1 : Int32) &&& 0x3f).toInt64) ||| ((XT.ushrL (Int64.ofNat t2.1) (((3 - 1) + (-1)) + (-1))) &&& 1)) <<< ((1 : Int32) &&& 0x3f).toInt64) ||| ((XT.ushrL (Int64.ofNat t3.1) (((3 - 1) + (-1)) + (-1))) &&& 1)))), .second, (.val (.int (((((((((0 + 1) + 1) + 1) + 1) + 1) + 1) + 1) + 1) + 1))), (.val (.int (0))), (.val (.int (((3 - 3) + (((0 + (((XT.ushrL (Int64.ofNat t1.1) (((3 - 1) + (-1)) + (-1))) &&& 1).toInt32)) + (((XT.ushrL (Int64.ofNat t2.1) (((3 - 1) + (-1)) + (-1))) &&& 1).toInt32)) + (((XT.ushrL (Int64.ofNat t3.1) (((3 - 1) + (-1)) + (-1))) &&& 1).toInt32))) - 3))), (.val (.int ((((3 - 1) + (-1)) + (-1)) + (-1)))), (.val (.int (((0 + (((XT.ushrL (Int64.ofNat t1.1) (((3 - 1) + (-1)) + (-1))) &&& 1).toInt32)) + (((XT.ushrL (Int64.ofNat t2.1) (((3 - 1) + (-1)) + (-1))) &&& 1).toInt32)) + (((XT.ushrL (Int64.ofNat t3.1) (((3 - 1) + (-1)) + (-1))) &&& 1).toInt32)))), (.val (.int (0))), (.val (.int (((0 + 1) + 1) + 1))), (.val (.long ((XT.ushrL (Int64.ofNat t3.1) (((3 - 1) + (-1)) + (-1))) &&& 1))), .second] [] [.inl ("com/example/reshelve/reshelve/service/sort/ZCurve", [(("com/example/reshelve/reshelve/service/sort/ZCurve", "dimensions", "I"), (.int (3))), (("com/example/reshelve/reshelve/service/sort/ZCurve", "bits", "I"), (.int (3))), (("com/example/reshelve/reshelve/service/sort/ZCurve", "words", "I"), (.int (1)))]), .inr (.long, [(.long (Int64.ofNat t1.1)), (.long (Int64.ofNat t2.1)), (.long (Int64.ofNat t3.1))]), .inr (.long, [(.long ((((((((((((((((((((0 : Int64) <<< ((1 : Int32) &&& 0x3f).toInt64) ||| ((XT.ushrL (Int64.ofNat t1.1) (3 - 1)) &&& 1)) <<< ((1 : Int32) &&& 0x3f).toInt64) ||| ((XT.ushrL (Int64.ofNat t2.1) (3 - 1)) &&& 1)) <<< ((1 : Int32) &&& 0x3f).toInt64) ||| ((XT.ushrL (Int64.ofNat t3.1) (3 - 1)) &&& 1)) <<< ((1 : Int32) &&& 0x3f).toInt64) ||| ((XT.ushrL (Int64.ofNat t1.1) ((3 - 1) + (-1))) &&& 1)) <<< ((1 : Int32) &&& 0x3f).toInt64) ||| ((XT.ushrL (Int64.ofNat t2.1) ((3 - 1) + (-1))) &&& 1)) <<< ((1 : Int32) &&& 0x3f).toInt64) ||| ((XT.ushrL (Int64.ofNat t3.1) ((3 - 1) + (-1))) &&& 1)) <<< ((1 : Int32) &&& 0x3f).toInt64) ||| ((XT.ushrL (Int64.ofNat t1.1) (((3 - 1) + (-1)) + (-1))) &&& 1)) <<< ((1 : Int32) &&& 0x3f).toInt64) ||| ((XT.ushrL (Int64.ofNat t2.1) (((3 - 1) + (-1)) + (-1))) &&& 1)) <<< ((1 : Int32) &&& 0x3f).toInt64) ||| ((XT.ushrL (Int64.ofNat t3.1) (((3 - 1) + (-1)) + (-1))) &&& 1)) <<< ((64 - (((((((((0 + 1) + 1) + 1) + 1) + 1) + 1) + 1) + 1) + 1) : Int32) &&& 0x3f).toInt64))])] _ _ _
        refine W.aloadN d3_171 rfl rfl ?_
        exact W.areturn d3_172 rfl rfl rfl (by decide) (by decide) (⟨rfl, by rw [own_k20 t1 t2 t3 q0 q1] <;> rfl⟩)
set_option maxRecDepth 65536 in
set_option maxHeartbeats 40000000 in
theorem w1b {l : Launch} {Z : State} {a0 : Array Value} {n : Nat} (hw : ∀ d ∈ tables_1, d.before a0 Z = true) : W l Z n m1 0 (entryL [.ref 0, .int 3, .int 3] 3) [] [.inl ("com/example/reshelve/reshelve/service/sort/ZCurve", [(("com/example/reshelve/reshelve/service/sort/ZCurve", "dimensions", "I"), (.int (0))), (("com/example/reshelve/reshelve/service/sort/ZCurve", "bits", "I"), (.int (0))), (("com/example/reshelve/reshelve/service/sort/ZCurve", "words", "I"), (.int (0)))])] 0 0 (Is none [.inl ("com/example/reshelve/reshelve/service/sort/ZCurve", [(("com/example/reshelve/reshelve/service/sort/ZCurve", "dimensions", "I"), (.int (3))), (("com/example/reshelve/reshelve/service/sort/ZCurve", "bits", "I"), (.int (3))), (("com/example/reshelve/reshelve/service/sort/ZCurve", "words", "I"), (.int (1)))])]) := by
  show W l Z n m1 0 [(.val (.ref 0)), (.val (.int (3))), (.val (.int (3)))] [] [.inl ("com/example/reshelve/reshelve/service/sort/ZCurve", [(("com/example/reshelve/reshelve/service/sort/ZCurve", "dimensions", "I"), (.int (0))), (("com/example/reshelve/reshelve/service/sort/ZCurve", "bits", "I"), (.int (0))), (("com/example/reshelve/reshelve/service/sort/ZCurve", "words", "I"), (.int (0)))])] 0 0 _
  refine W.aloadN d1_0 rfl rfl ?_
  refine W.initO d1_1 (hw _ (wd 7 rfl)) (hw _ (wd 8 rfl)) (hw _ (wd 9 rfl)) rfl rfl ?_
  refine W.iloadN d1_4 rfl ?_
  refine W.iconst 1 d1_5 rfl ?_
  refine W.icmp_lt d1_6 (fun h => False.elim (by revert h; decide)) (fun h6 => ?_)
  refine W.iloadN d1_9 rfl ?_
  refine W.if_lt d1_10 (fun h => False.elim (by revert h; decide)) (fun h10 => ?_)
  refine W.iloadN d1_13 rfl ?_
  refine W.bipush 64 d1_14 rfl ?_
  refine W.icmp_le d1_16 (fun h16 => ?_) (fun h => False.elim (by revert h; decide))
  refine W.aloadN d1_34 rfl rfl ?_
  refine W.iloadN d1_35 rfl ?_
  refine W.putfield 0 d1_36 (hw _ (wd 10 rfl)) rfl rfl (Or.inr ⟨hw _ (wd 11 rfl), rfl, rfl⟩) (hw _ (wd 2 rfl)) (ty := .int) (by decide) (fun _ => rfl) (fun _ => rfl) ?_
  refine W.aloadN d1_39 rfl rfl ?_
  refine W.iloadN d1_40 rfl ?_
  refine W.putfield 1 d1_41 (hw _ (wd 12 rfl)) rfl rfl (Or.inr ⟨hw _ (wd 13 rfl), rfl, rfl⟩) (hw _ (wd 2 rfl)) (ty := .int) (by decide) (fun _ => rfl) (fun _ => rfl) ?_
  refine W.aloadN d1_44 rfl rfl ?_
  refine W.iloadN d1_45 rfl ?_
  refine W.i2l d1_46 ?_
  refine W.iloadN d1_47 rfl ?_
  refine W.i2l d1_48 ?_
  refine W.lmul d1_49 ?_
  refine W.ldc2 d1_50 (hw _ (wd 14 rfl)) ?_
  refine W.ladd d1_53 ?_
  refine W.lconst 1 d1_54 rfl ?_
  refine W.lsub d1_55 ?_
  refine W.ldc2 d1_56 (hw _ (wd 14 rfl)) ?_
  refine W.ldiv d1_59 (by decide) ?_
  refine W.l2i d1_60 ?_
  refine W.putfield 2 d1_61 (hw _ (wd 15 rfl)) rfl rfl (Or.inr ⟨hw _ (wd 16 rfl), rfl, rfl⟩) (hw _ (wd 2 rfl)) (ty := .int) (by decide) (fun _ => rfl) (fun _ => rfl) ?_
  exact W.leave d1_64 rfl (by decide) (by decide) (⟨rfl, rfl⟩)
theorem own_rlen (b : Nat) (c : Int64) (h : b ≠ 0) : (own_res b c).length = 1 := by simp [own_res, h]
theorem own_rget (b : Nat) (c : Int64) (h : b ≠ 0) : (own_res b c)[0]? = some (.long (c <<< (((64 : Int32) - Int32.ofNat b) &&& 0x3f).toInt64)) := by simp [own_res, h]
theorem own_bz (b : Nat) (hb : b ≤ 64) (h0 : b ≠ 0) (h : Int32.ofNat b = 0) : False := by
  have e := congrArg Int32.toInt h
  rw [own_i (by omega)] at e
  have : (0 : Int32).toInt = 0 := rfl
  omega
theorem own_b64 (b : Nat) (hb : b ≤ 64) (h : Int32.ofNat b = 64) : b = 64 := by
  have e := congrArg Int32.toInt h
  rw [own_i (by omega)] at e
  have : (64 : Int32).toInt = 64 := rfl
  omega
theorem own_rem65 (s : Int32) : ∃ b, b ≤ 64 ∧ (s &&& 2147483647) % 65 = Int32.ofNat b := by
  obtain ⟨b, hb, e⟩ := rem_nat (s &&& 2147483647) 65 65 ((c_andS s 2147483647).2.2 (by decide)) rfl (by decide) (by decide)
  exact ⟨b, by omega, e⟩
set_option maxRecDepth 65536 in
set_option maxHeartbeats 40000000 in
theorem w_one {l : Launch} {Z : State} {a0 : Array Value} {n : Nat} (hw : ∀ d ∈ tables_1, d.before a0 Z = true) (mode sel : Int32) (v x y z : Int64) (b : Nat) (c : Int64) (hb : b ≤ 64) (hc : own_top c b = 0) : W l Z n m0 36 [(.val (.int (mode))), (.val (.int (sel))), (.val (.long (v))), .second, (.val (.long (x))), .second, (.val (.long (y))), .second, (.val (.long (z))), .second, (.val (.int (Int32.ofNat b))), (.val (.long (c))), .second, .unset, .unset, .unset, .unset, .unset, .unset, .unset, .unset, .unset] [] [] 0 0 (fun v _ => v = some (.int 1)) := by
  by_cases hb0 : b = 0
  · subst hb0
    refine W.new (N := 0) d0_36 (hw _ (wd 1 rfl)) (okc0 hw) rfl (by decide) (by decide) ?_
    refine W.dup d0_39 rfl ?_
    refine W.iconst 1 d0_40 rfl ?_
    refine W.iload d0_41 rfl ?_
    refine W.initN (M' := m1) d0_43 rfl rfl (hw _ (wd 4 rfl)) (hw _ (wd 5 rfl)) (w1 hw 0 (by decide)) (ok1 hw) rfl rfl rfl ?_
    refine W.astore d0_46 rfl rfl ?_
    refine W.aload d0_48 rfl rfl ?_
    refine W.iconst 1 d0_50 rfl ?_
    refine W.newarray (N := 1) (cnt := 1) (cap := 1) d0_51 (hw _ (wd 17 rfl)) ⟨by decide, by decide⟩ rfl (Nat.le_refl _) (by decide) (by decide) (by decide) ?_
    refine W.dup d0_53 rfl ?_
    refine W.iconst 0 d0_54 rfl ?_
    refine W.lload d0_55 rfl ?_
    refine W.lastore (i := 0) d0_57 rfl ⟨by decide, by decide⟩ (by simp) ?_
    show WB _ l Z n m0 58 [(.val (.int (mode))), (.val (.int (sel))), (.val (.long (v))), .second, (.val (.long (x))), .second, (.val (.long (y))), .second, (.val (.long (z))), .second, (.val (.int (Int32.ofNat 0))), (.val (.long (c))), .second, (.val (.ref 0)), .unset, .unset, .unset, .unset, .unset, .unset, .unset, .unset] [(.ref 1), (.ref 0)] [.inl ("com/example/reshelve/reshelve/service/sort/ZCurve", [(("com/example/reshelve/reshelve/service/sort/ZCurve", "dimensions", "I"), (.int (1))), (("com/example/reshelve/reshelve/service/sort/ZCurve", "bits", "I"), (.int (Int32.ofNat 0))), (("com/example/reshelve/reshelve/service/sort/ZCurve", "words", "I"), (.int (Int32.ofNat (own_w 0))))]), .inr (.long, [(.long (c))])] _ _ _
    refine W.callvV (M' := m3) d0_58 (hw _ (wd 18 rfl)) (hw _ (wd 19 rfl)) (hw _ (wd 20 rfl)) (hw _ (wd 21 rfl)) (w3 hw 0 c (by decide) hc) (ok3 hw) rfl rfl rfl rfl ?_
    refine W.astore d0_61 rfl rfl ?_
    refine W.iload d0_63 rfl ?_
    refine W.if_ne d0_65 (fun h => False.elim (h rfl)) (fun h65 => ?_)
    refine W.aload d0_68 rfl rfl ?_
    refine W.arraylength 0 d0_70 rfl rfl rfl ?_
    refine W.if_ne d0_71 (fun h => False.elim (by revert h; decide)) (fun h71 => ?_)
    refine W.iconst 1 d0_74 rfl ?_
    refine W.goto d0_75 ?_
    exact W.nreturn .boolean d0_79 rfl (by simp) (by decide) (by decide) (rfl)
  · skip
    refine W.new (N := 0) d0_36 (hw _ (wd 1 rfl)) (okc0 hw) rfl (by decide) (by decide) ?_
    refine W.dup d0_39 rfl ?_
    refine W.iconst 1 d0_40 rfl ?_
    refine W.iload d0_41 rfl ?_
    refine W.initN (M' := m1) d0_43 rfl rfl (hw _ (wd 4 rfl)) (hw _ (wd 5 rfl)) (w1 hw b hb) (ok1 hw) rfl rfl rfl ?_
    refine W.astore d0_46 rfl rfl ?_
    refine W.aload d0_48 rfl rfl ?_
    refine W.iconst 1 d0_50 rfl ?_
    refine W.newarray (N := 1) (cnt := 1) (cap := 1) d0_51 (hw _ (wd 17 rfl)) ⟨by decide, by decide⟩ rfl (Nat.le_refl _) (by decide) (by decide) (by decide) ?_
    refine W.dup d0_53 rfl ?_
    refine W.iconst 0 d0_54 rfl ?_
    refine W.lload d0_55 rfl ?_
    refine W.lastore (i := 0) d0_57 rfl ⟨by decide, by decide⟩ (by simp) ?_
    show WB _ l Z n m0 58 [(.val (.int (mode))), (.val (.int (sel))), (.val (.long (v))), .second, (.val (.long (x))), .second, (.val (.long (y))), .second, (.val (.long (z))), .second, (.val (.int (Int32.ofNat b))), (.val (.long (c))), .second, (.val (.ref 0)), .unset, .unset, .unset, .unset, .unset, .unset, .unset, .unset] [(.ref 1), (.ref 0)] [.inl ("com/example/reshelve/reshelve/service/sort/ZCurve", [(("com/example/reshelve/reshelve/service/sort/ZCurve", "dimensions", "I"), (.int (1))), (("com/example/reshelve/reshelve/service/sort/ZCurve", "bits", "I"), (.int (Int32.ofNat b))), (("com/example/reshelve/reshelve/service/sort/ZCurve", "words", "I"), (.int (Int32.ofNat (own_w b))))]), .inr (.long, [(.long (c))])] _ _ _
    refine W.callvV (M' := m3) d0_58 (hw _ (wd 18 rfl)) (hw _ (wd 19 rfl)) (hw _ (wd 20 rfl)) (hw _ (wd 21 rfl)) (w3 hw b c hb hc) (ok3 hw) rfl rfl rfl rfl ?_
    refine W.astore d0_61 rfl rfl ?_
    refine W.iload d0_63 rfl ?_
    refine W.if_ne d0_65 (fun h65 => ?_) (fun h => False.elim (own_bz b hb hb0 h))
    refine W.aload d0_80 rfl rfl ?_
    refine W.arraylength 1 d0_82 rfl rfl (by rw [own_rlen b c hb0] <;> rfl) ?_
    refine W.iconst 1 d0_83 rfl ?_
    refine W.icmp_ne d0_84 (fun h => False.elim (by revert h; decide)) (fun h84 => ?_)
    refine W.aload d0_87 rfl rfl ?_
    refine W.iconst 0 d0_89 rfl ?_
    refine W.laload (i := 0) d0_90 rfl ⟨by decide, by decide⟩ (own_rget b c hb0) ?_
    refine W.lload d0_91 rfl ?_
    refine W.bipush 64 d0_93 rfl ?_
    refine W.iload d0_95 rfl ?_
    refine W.isub d0_97 ?_
    refine W.lshl d0_98 ?_
    refine W.lcmp d0_99 ?_
    refine W.ifl_ne d0_100 (fun h => False.elim (h rfl)) (fun h100 => ?_)
    refine W.iconst 1 d0_103 rfl ?_
    refine W.goto d0_104 ?_
    exact W.nreturn .boolean d0_108 rfl (by simp) (by decide) (by decide) (rfl)
theorem own_lt64 (b : Nat) (hb : b ≤ 64) (h : ¬ Int32.ofNat b = 64) : b < 64 := by
  rcases Nat.lt_or_ge b 64 with q | q
  · exact q
  · exact absurd (by rw [show b = 64 by omega] <;> decide) h
set_option maxRecDepth 65536 in
set_option maxHeartbeats 40000000 in
theorem c5_0 {l : Launch} {Z : State} {a0 : Array Value} {n : Nat} (hw : ∀ d ∈ tables_1, d.before a0 Z = true) (x0 : Int64) (x1 : Int64) (x2 : Int64) (x3 : Int64) (x4 : Int64) : W l Z n m5 0 (entryL [(.long (x0)), (.int (2))] 3) [] [.inl ("com/example/reshelve/reshelve/service/sort/ZCurve", [(("com/example/reshelve/reshelve/service/sort/ZCurve", "dimensions", "I"), (.int (3))), (("com/example/reshelve/reshelve/service/sort/ZCurve", "bits", "I"), (.int (3))), (("com/example/reshelve/reshelve/service/sort/ZCurve", "words", "I"), (.int (1)))]), .inr (.long, [(.long (x1)), (.long (x2)), (.long (x3))]), .inr (.long, [(.long (x4))])] 0 0 (Is (some (.int (((XT.ushrL x0 2) &&& 1).toInt32))) [.inl ("com/example/reshelve/reshelve/service/sort/ZCurve", [(("com/example/reshelve/reshelve/service/sort/ZCurve", "dimensions", "I"), (.int (3))), (("com/example/reshelve/reshelve/service/sort/ZCurve", "bits", "I"), (.int (3))), (("com/example/reshelve/reshelve/service/sort/ZCurve", "words", "I"), (.int (1)))]), .inr (.long, [(.long (x1)), (.long (x2)), (.long (x3))]), .inr (.long, [(.long (x4))])]) := by
  show W l Z n m5 0 [(.val (.long (x0))), .second, (.val (.int (2)))] [] [.inl ("com/example/reshelve/reshelve/service/sort/ZCurve", [(("com/example/reshelve/reshelve/service/sort/ZCurve", "dimensions", "I"), (.int (3))), (("com/example/reshelve/reshelve/service/sort/ZCurve", "bits", "I"), (.int (3))), (("com/example/reshelve/reshelve/service/sort/ZCurve", "words", "I"), (.int (1)))]), .inr (.long, [(.long (x1)), (.long (x2)), (.long (x3))]), .inr (.long, [(.long (x4))])] 0 0 _
  refine W.lloadN d5_0 rfl ?_
  refine W.iloadN d5_1 rfl ?_
  refine W.lushr d5_2 ?_
  refine W.lconst 1 d5_3 rfl ?_
  refine W.land d5_4 ?_
  refine W.l2i d5_5 ?_
  exact W.ireturn d5_6 rfl (by decide) (by decide) (⟨rfl, rfl⟩)
set_option maxRecDepth 65536 in
set_option maxHeartbeats 40000000 in
theorem c4_1 {l : Launch} {Z : State} {a0 : Array Value} {n : Nat} (hw : ∀ d ∈ tables_1, d.before a0 Z = true) (x0 : Int64) (x1 : Int64) (x2 : Int64) (x3 : Int64) (x4 : Int64) (x5 : Int64) (x6 : Int64) : W l Z n m4 0 (entryL [(.long (x0)), (.long (x1)), (.long (x2)), (.int (2))] 7) [] [.inl ("com/example/reshelve/reshelve/service/sort/ZCurve", [(("com/example/reshelve/reshelve/service/sort/ZCurve", "dimensions", "I"), (.int (3))), (("com/example/reshelve/reshelve/service/sort/ZCurve", "bits", "I"), (.int (3))), (("com/example/reshelve/reshelve/service/sort/ZCurve", "words", "I"), (.int (1)))]), .inr (.long, [(.long (x3)), (.long (x4)), (.long (x5))]), .inr (.long, [(.long (x6))])] 0 0 (Is (some (.int (((((XT.ushrL x0 2) &&& 1).toInt32) + (((XT.ushrL x1 2) &&& 1).toInt32)) + (((XT.ushrL x2 2) &&& 1).toInt32)))) [.inl ("com/example/reshelve/reshelve/service/sort/ZCurve", [(("com/example/reshelve/reshelve/service/sort/ZCurve", "dimensions", "I"), (.int (3))), (("com/example/reshelve/reshelve/service/sort/ZCurve", "bits", "I"), (.int (3))), (("com/example/reshelve/reshelve/service/sort/ZCurve", "words", "I"), (.int (1)))]), .inr (.long, [(.long (x3)), (.long (x4)), (.long (x5))]), .inr (.long, [(.long (x6))])]) := by
  show W l Z n m4 0 [(.val (.long (x0))), .second, (.val (.long (x1))), .second, (.val (.long (x2))), .second, (.val (.int (2)))] [] [.inl ("com/example/reshelve/reshelve/service/sort/ZCurve", [(("com/example/reshelve/reshelve/service/sort/ZCurve", "dimensions", "I"), (.int (3))), (("com/example/reshelve/reshelve/service/sort/ZCurve", "bits", "I"), (.int (3))), (("com/example/reshelve/reshelve/service/sort/ZCurve", "words", "I"), (.int (1)))]), .inr (.long, [(.long (x3)), (.long (x4)), (.long (x5))]), .inr (.long, [(.long (x6))])] 0 0 _
  refine W.lloadN d4_0 rfl ?_
  refine W.iload d4_1 rfl ?_
  refine W.callsV (M' := m5) d4_3 (hw _ (wd 28 rfl)) (hw _ (wd 29 rfl)) (c5_0 hw x0 x3 x4 x5 x6) (ok5 hw) rfl rfl rfl ?_
  refine W.lloadN d4_6 rfl ?_
  refine W.iload d4_7 rfl ?_
  refine W.callsV (M' := m5) d4_9 (hw _ (wd 28 rfl)) (hw _ (wd 29 rfl)) (c5_0 hw x1 x3 x4 x5 x6) (ok5 hw) rfl rfl rfl ?_
  refine W.iadd d4_12 ?_
  refine W.lload d4_13 rfl ?_
  refine W.iload d4_15 rfl ?_
  refine W.callsV (M' := m5) d4_17 (hw _ (wd 28 rfl)) (hw _ (wd 29 rfl)) (c5_0 hw x2 x3 x4 x5 x6) (ok5 hw) rfl rfl rfl ?_
  refine W.iadd d4_20 ?_
  exact W.ireturn d4_21 rfl (by decide) (by decide) (⟨rfl, rfl⟩)
set_option maxRecDepth 65536 in
set_option maxHeartbeats 40000000 in
theorem c5_2 {l : Launch} {Z : State} {a0 : Array Value} {n : Nat} (hw : ∀ d ∈ tables_1, d.before a0 Z = true) (x0 : Int64) (x1 : Int64) (x2 : Int64) (x3 : Int64) (x4 : Int64) : W l Z n m5 0 (entryL [(.long (x0)), (.int (1))] 3) [] [.inl ("com/example/reshelve/reshelve/service/sort/ZCurve", [(("com/example/reshelve/reshelve/service/sort/ZCurve", "dimensions", "I"), (.int (3))), (("com/example/reshelve/reshelve/service/sort/ZCurve", "bits", "I"), (.int (3))), (("com/example/reshelve/reshelve/service/sort/ZCurve", "words", "I"), (.int (1)))]), .inr (.long, [(.long (x1)), (.long (x2)), (.long (x3))]), .inr (.long, [(.long (x4))])] 0 0 (Is (some (.int (((XT.ushrL x0 1) &&& 1).toInt32))) [.inl ("com/example/reshelve/reshelve/service/sort/ZCurve", [(("com/example/reshelve/reshelve/service/sort/ZCurve", "dimensions", "I"), (.int (3))), (("com/example/reshelve/reshelve/service/sort/ZCurve", "bits", "I"), (.int (3))), (("com/example/reshelve/reshelve/service/sort/ZCurve", "words", "I"), (.int (1)))]), .inr (.long, [(.long (x1)), (.long (x2)), (.long (x3))]), .inr (.long, [(.long (x4))])]) := by
  show W l Z n m5 0 [(.val (.long (x0))), .second, (.val (.int (1)))] [] [.inl ("com/example/reshelve/reshelve/service/sort/ZCurve", [(("com/example/reshelve/reshelve/service/sort/ZCurve", "dimensions", "I"), (.int (3))), (("com/example/reshelve/reshelve/service/sort/ZCurve", "bits", "I"), (.int (3))), (("com/example/reshelve/reshelve/service/sort/ZCurve", "words", "I"), (.int (1)))]), .inr (.long, [(.long (x1)), (.long (x2)), (.long (x3))]), .inr (.long, [(.long (x4))])] 0 0 _
  refine W.lloadN d5_0 rfl ?_
  refine W.iloadN d5_1 rfl ?_
  refine W.lushr d5_2 ?_
  refine W.lconst 1 d5_3 rfl ?_
  refine W.land d5_4 ?_
  refine W.l2i d5_5 ?_
  exact W.ireturn d5_6 rfl (by decide) (by decide) (⟨rfl, rfl⟩)
set_option maxRecDepth 65536 in
set_option maxHeartbeats 40000000 in
theorem c4_3 {l : Launch} {Z : State} {a0 : Array Value} {n : Nat} (hw : ∀ d ∈ tables_1, d.before a0 Z = true) (x0 : Int64) (x1 : Int64) (x2 : Int64) (x3 : Int64) (x4 : Int64) (x5 : Int64) (x6 : Int64) : W l Z n m4 0 (entryL [(.long (x0)), (.long (x1)), (.long (x2)), (.int (1))] 7) [] [.inl ("com/example/reshelve/reshelve/service/sort/ZCurve", [(("com/example/reshelve/reshelve/service/sort/ZCurve", "dimensions", "I"), (.int (3))), (("com/example/reshelve/reshelve/service/sort/ZCurve", "bits", "I"), (.int (3))), (("com/example/reshelve/reshelve/service/sort/ZCurve", "words", "I"), (.int (1)))]), .inr (.long, [(.long (x3)), (.long (x4)), (.long (x5))]), .inr (.long, [(.long (x6))])] 0 0 (Is (some (.int (((((XT.ushrL x0 1) &&& 1).toInt32) + (((XT.ushrL x1 1) &&& 1).toInt32)) + (((XT.ushrL x2 1) &&& 1).toInt32)))) [.inl ("com/example/reshelve/reshelve/service/sort/ZCurve", [(("com/example/reshelve/reshelve/service/sort/ZCurve", "dimensions", "I"), (.int (3))), (("com/example/reshelve/reshelve/service/sort/ZCurve", "bits", "I"), (.int (3))), (("com/example/reshelve/reshelve/service/sort/ZCurve", "words", "I"), (.int (1)))]), .inr (.long, [(.long (x3)), (.long (x4)), (.long (x5))]), .inr (.long, [(.long (x6))])]) := by
  show W l Z n m4 0 [(.val (.long (x0))), .second, (.val (.long (x1))), .second, (.val (.long (x2))), .second, (.val (.int (1)))] [] [.inl ("com/example/reshelve/reshelve/service/sort/ZCurve", [(("com/example/reshelve/reshelve/service/sort/ZCurve", "dimensions", "I"), (.int (3))), (("com/example/reshelve/reshelve/service/sort/ZCurve", "bits", "I"), (.int (3))), (("com/example/reshelve/reshelve/service/sort/ZCurve", "words", "I"), (.int (1)))]), .inr (.long, [(.long (x3)), (.long (x4)), (.long (x5))]), .inr (.long, [(.long (x6))])] 0 0 _
  refine W.lloadN d4_0 rfl ?_
  refine W.iload d4_1 rfl ?_
  refine W.callsV (M' := m5) d4_3 (hw _ (wd 28 rfl)) (hw _ (wd 29 rfl)) (c5_2 hw x0 x3 x4 x5 x6) (ok5 hw) rfl rfl rfl ?_
  refine W.lloadN d4_6 rfl ?_
  refine W.iload d4_7 rfl ?_
  refine W.callsV (M' := m5) d4_9 (hw _ (wd 28 rfl)) (hw _ (wd 29 rfl)) (c5_2 hw x1 x3 x4 x5 x6) (ok5 hw) rfl rfl rfl ?_
  refine W.iadd d4_12 ?_
  refine W.lload d4_13 rfl ?_
  refine W.iload d4_15 rfl ?_
  refine W.callsV (M' := m5) d4_17 (hw _ (wd 28 rfl)) (hw _ (wd 29 rfl)) (c5_2 hw x2 x3 x4 x5 x6) (ok5 hw) rfl rfl rfl ?_
  refine W.iadd d4_20 ?_
  exact W.ireturn d4_21 rfl (by decide) (by decide) (⟨rfl, rfl⟩)
set_option maxRecDepth 65536 in
set_option maxHeartbeats 40000000 in
theorem c6_4 {l : Launch} {Z : State} {a0 : Array Value} {n : Nat} (hw : ∀ d ∈ tables_1, d.before a0 Z = true) (x0 : Int64) (x1 : Int64) (x2 : Int64) (x3 : Int64) (x4 : Int64) (x5 : Int64) (x6 : Int64) : W l Z n m6 0 (entryL [(.long (x0)), (.long (x1)), (.long (x2)), (.int (2)), (.int (0))] 14) [] [.inl ("com/example/reshelve/reshelve/service/sort/ZCurve", [(("com/example/reshelve/reshelve/service/sort/ZCurve", "dimensions", "I"), (.int (3))), (("com/example/reshelve/reshelve/service/sort/ZCurve", "bits", "I"), (.int (3))), (("com/example/reshelve/reshelve/service/sort/ZCurve", "words", "I"), (.int (1)))]), .inr (.long, [(.long (x3)), (.long (x4)), (.long (x5))]), .inr (.long, [(.long (x6))])] 0 0 (Is (some (.long (((((((XT.ushrL x0 2) &&& 1).toInt32).toInt64) <<< ((2 : Int32) &&& 0x3f).toInt64) ||| (((((XT.ushrL x1 2) &&& 1).toInt32).toInt64) <<< ((1 : Int32) &&& 0x3f).toInt64)) ||| ((((XT.ushrL x2 2) &&& 1).toInt32).toInt64)))) [.inl ("com/example/reshelve/reshelve/service/sort/ZCurve", [(("com/example/reshelve/reshelve/service/sort/ZCurve", "dimensions", "I"), (.int (3))), (("com/example/reshelve/reshelve/service/sort/ZCurve", "bits", "I"), (.int (3))), (("com/example/reshelve/reshelve/service/sort/ZCurve", "words", "I"), (.int (1)))]), .inr (.long, [(.long (x3)), (.long (x4)), (.long (x5))]), .inr (.long, [(.long (x6))])]) := by
  show W l Z n m6 0 [(.val (.long (x0))), .second, (.val (.long (x1))), .second, (.val (.long (x2))), .second, (.val (.int (2))), (.val (.int (0))), .unset, .unset, .unset, .unset, .unset, .unset] [] [.inl ("com/example/reshelve/reshelve/service/sort/ZCurve", [(("com/example/reshelve/reshelve/service/sort/ZCurve", "dimensions", "I"), (.int (3))), (("com/example/reshelve/reshelve/service/sort/ZCurve", "bits", "I"), (.int (3))), (("com/example/reshelve/reshelve/service/sort/ZCurve", "words", "I"), (.int (1)))]), .inr (.long, [(.long (x3)), (.long (x4)), (.long (x5))]), .inr (.long, [(.long (x6))])] 0 0 _
  refine W.lloadN d6_0 rfl ?_
  refine W.iload d6_1 rfl ?_
  refine W.callsV (M' := m5) d6_3 (hw _ (wd 28 rfl)) (hw _ (wd 29 rfl)) (c5_0 hw x0 x3 x4 x5 x6) (ok5 hw) rfl rfl rfl ?_
  refine W.i2l d6_6 ?_
  refine W.lstore d6_7 rfl ?_
  refine W.lloadN d6_9 rfl ?_
  refine W.iload d6_10 rfl ?_
  refine W.callsV (M' := m5) d6_12 (hw _ (wd 28 rfl)) (hw _ (wd 29 rfl)) (c5_0 hw x1 x3 x4 x5 x6) (ok5 hw) rfl rfl rfl ?_
  refine W.i2l d6_15 ?_
  refine W.lstore d6_16 rfl ?_
  refine W.lload d6_18 rfl ?_
  refine W.iload d6_20 rfl ?_
  refine W.callsV (M' := m5) d6_22 (hw _ (wd 28 rfl)) (hw _ (wd 29 rfl)) (c5_0 hw x2 x3 x4 x5 x6) (ok5 hw) rfl rfl rfl ?_
  refine W.i2l d6_25 ?_
  refine W.lstore d6_26 rfl ?_
  refine W.iload d6_28 rfl ?_
  refine W.if_ne d6_30 (fun h => False.elim (by revert h; decide)) (fun h30 => ?_)
  refine W.lload d6_33 rfl ?_
  refine W.iconst 2 d6_35 rfl ?_
  refine W.lshl d6_36 ?_
  refine W.lload d6_37 rfl ?_
  refine W.iconst 1 d6_39 rfl ?_
  refine W.lshl d6_40 ?_
  refine W.lor d6_41 ?_
  refine W.lload d6_42 rfl ?_
  refine W.lor d6_44 ?_
  exact W.lreturn d6_45 rfl (by decide) (by decide) (⟨rfl, rfl⟩)
set_option maxRecDepth 65536 in
set_option maxHeartbeats 40000000 in
theorem c6_5 {l : Launch} {Z : State} {a0 : Array Value} {n : Nat} (hw : ∀ d ∈ tables_1, d.before a0 Z = true) (x0 : Int64) (x1 : Int64) (x2 : Int64) (x3 : Int64) (x4 : Int64) (x5 : Int64) (x6 : Int64) : W l Z n m6 0 (entryL [(.long (x0)), (.long (x1)), (.long (x2)), (.int (1)), (.int (0))] 14) [] [.inl ("com/example/reshelve/reshelve/service/sort/ZCurve", [(("com/example/reshelve/reshelve/service/sort/ZCurve", "dimensions", "I"), (.int (3))), (("com/example/reshelve/reshelve/service/sort/ZCurve", "bits", "I"), (.int (3))), (("com/example/reshelve/reshelve/service/sort/ZCurve", "words", "I"), (.int (1)))]), .inr (.long, [(.long (x3)), (.long (x4)), (.long (x5))]), .inr (.long, [(.long (x6))])] 0 0 (Is (some (.long (((((((XT.ushrL x0 1) &&& 1).toInt32).toInt64) <<< ((2 : Int32) &&& 0x3f).toInt64) ||| (((((XT.ushrL x1 1) &&& 1).toInt32).toInt64) <<< ((1 : Int32) &&& 0x3f).toInt64)) ||| ((((XT.ushrL x2 1) &&& 1).toInt32).toInt64)))) [.inl ("com/example/reshelve/reshelve/service/sort/ZCurve", [(("com/example/reshelve/reshelve/service/sort/ZCurve", "dimensions", "I"), (.int (3))), (("com/example/reshelve/reshelve/service/sort/ZCurve", "bits", "I"), (.int (3))), (("com/example/reshelve/reshelve/service/sort/ZCurve", "words", "I"), (.int (1)))]), .inr (.long, [(.long (x3)), (.long (x4)), (.long (x5))]), .inr (.long, [(.long (x6))])]) := by
  show W l Z n m6 0 [(.val (.long (x0))), .second, (.val (.long (x1))), .second, (.val (.long (x2))), .second, (.val (.int (1))), (.val (.int (0))), .unset, .unset, .unset, .unset, .unset, .unset] [] [.inl ("com/example/reshelve/reshelve/service/sort/ZCurve", [(("com/example/reshelve/reshelve/service/sort/ZCurve", "dimensions", "I"), (.int (3))), (("com/example/reshelve/reshelve/service/sort/ZCurve", "bits", "I"), (.int (3))), (("com/example/reshelve/reshelve/service/sort/ZCurve", "words", "I"), (.int (1)))]), .inr (.long, [(.long (x3)), (.long (x4)), (.long (x5))]), .inr (.long, [(.long (x6))])] 0 0 _
  refine W.lloadN d6_0 rfl ?_
  refine W.iload d6_1 rfl ?_
  refine W.callsV (M' := m5) d6_3 (hw _ (wd 28 rfl)) (hw _ (wd 29 rfl)) (c5_2 hw x0 x3 x4 x5 x6) (ok5 hw) rfl rfl rfl ?_
  refine W.i2l d6_6 ?_
  refine W.lstore d6_7 rfl ?_
  refine W.lloadN d6_9 rfl ?_
  refine W.iload d6_10 rfl ?_
  refine W.callsV (M' := m5) d6_12 (hw _ (wd 28 rfl)) (hw _ (wd 29 rfl)) (c5_2 hw x1 x3 x4 x5 x6) (ok5 hw) rfl rfl rfl ?_
  refine W.i2l d6_15 ?_
  refine W.lstore d6_16 rfl ?_
  refine W.lload d6_18 rfl ?_
  refine W.iload d6_20 rfl ?_
  refine W.callsV (M' := m5) d6_22 (hw _ (wd 28 rfl)) (hw _ (wd 29 rfl)) (c5_2 hw x2 x3 x4 x5 x6) (ok5 hw) rfl rfl rfl ?_
  refine W.i2l d6_25 ?_
  refine W.lstore d6_26 rfl ?_
  refine W.iload d6_28 rfl ?_
  refine W.if_ne d6_30 (fun h => False.elim (by revert h; decide)) (fun h30 => ?_)
  refine W.lload d6_33 rfl ?_
  refine W.iconst 2 d6_35 rfl ?_
  refine W.lshl d6_36 ?_
  refine W.lload d6_37 rfl ?_
  refine W.iconst 1 d6_39 rfl ?_
  refine W.lshl d6_40 ?_
  refine W.lor d6_41 ?_
  refine W.lload d6_42 rfl ?_
  refine W.lor d6_44 ?_
  exact W.lreturn d6_45 rfl (by decide) (by decide) (⟨rfl, rfl⟩)
set_option maxRecDepth 65536 in
set_option maxHeartbeats 40000000 in
theorem c5_6 {l : Launch} {Z : State} {a0 : Array Value} {n : Nat} (hw : ∀ d ∈ tables_1, d.before a0 Z = true) (x0 : Int64) (x1 : Int64) (x2 : Int64) (x3 : Int64) (x4 : Int64) : W l Z n m5 0 (entryL [(.long (x0)), (.int (0))] 3) [] [.inl ("com/example/reshelve/reshelve/service/sort/ZCurve", [(("com/example/reshelve/reshelve/service/sort/ZCurve", "dimensions", "I"), (.int (3))), (("com/example/reshelve/reshelve/service/sort/ZCurve", "bits", "I"), (.int (3))), (("com/example/reshelve/reshelve/service/sort/ZCurve", "words", "I"), (.int (1)))]), .inr (.long, [(.long (x1)), (.long (x2)), (.long (x3))]), .inr (.long, [(.long (x4))])] 0 0 (Is (some (.int (((XT.ushrL x0 0) &&& 1).toInt32))) [.inl ("com/example/reshelve/reshelve/service/sort/ZCurve", [(("com/example/reshelve/reshelve/service/sort/ZCurve", "dimensions", "I"), (.int (3))), (("com/example/reshelve/reshelve/service/sort/ZCurve", "bits", "I"), (.int (3))), (("com/example/reshelve/reshelve/service/sort/ZCurve", "words", "I"), (.int (1)))]), .inr (.long, [(.long (x1)), (.long (x2)), (.long (x3))]), .inr (.long, [(.long (x4))])]) := by
  show W l Z n m5 0 [(.val (.long (x0))), .second, (.val (.int (0)))] [] [.inl ("com/example/reshelve/reshelve/service/sort/ZCurve", [(("com/example/reshelve/reshelve/service/sort/ZCurve", "dimensions", "I"), (.int (3))), (("com/example/reshelve/reshelve/service/sort/ZCurve", "bits", "I"), (.int (3))), (("com/example/reshelve/reshelve/service/sort/ZCurve", "words", "I"), (.int (1)))]), .inr (.long, [(.long (x1)), (.long (x2)), (.long (x3))]), .inr (.long, [(.long (x4))])] 0 0 _
  refine W.lloadN d5_0 rfl ?_
  refine W.iloadN d5_1 rfl ?_
  refine W.lushr d5_2 ?_
  refine W.lconst 1 d5_3 rfl ?_
  refine W.land d5_4 ?_
  refine W.l2i d5_5 ?_
  exact W.ireturn d5_6 rfl (by decide) (by decide) (⟨rfl, rfl⟩)
set_option maxRecDepth 65536 in
set_option maxHeartbeats 40000000 in
theorem c6_7 {l : Launch} {Z : State} {a0 : Array Value} {n : Nat} (hw : ∀ d ∈ tables_1, d.before a0 Z = true) (x0 : Int64) (x1 : Int64) (x2 : Int64) (x3 : Int64) (x4 : Int64) (x5 : Int64) (x6 : Int64) : W l Z n m6 0 (entryL [(.long (x0)), (.long (x1)), (.long (x2)), (.int (0)), (.int (0))] 14) [] [.inl ("com/example/reshelve/reshelve/service/sort/ZCurve", [(("com/example/reshelve/reshelve/service/sort/ZCurve", "dimensions", "I"), (.int (3))), (("com/example/reshelve/reshelve/service/sort/ZCurve", "bits", "I"), (.int (3))), (("com/example/reshelve/reshelve/service/sort/ZCurve", "words", "I"), (.int (1)))]), .inr (.long, [(.long (x3)), (.long (x4)), (.long (x5))]), .inr (.long, [(.long (x6))])] 0 0 (Is (some (.long (((((((XT.ushrL x0 0) &&& 1).toInt32).toInt64) <<< ((2 : Int32) &&& 0x3f).toInt64) ||| (((((XT.ushrL x1 0) &&& 1).toInt32).toInt64) <<< ((1 : Int32) &&& 0x3f).toInt64)) ||| ((((XT.ushrL x2 0) &&& 1).toInt32).toInt64)))) [.inl ("com/example/reshelve/reshelve/service/sort/ZCurve", [(("com/example/reshelve/reshelve/service/sort/ZCurve", "dimensions", "I"), (.int (3))), (("com/example/reshelve/reshelve/service/sort/ZCurve", "bits", "I"), (.int (3))), (("com/example/reshelve/reshelve/service/sort/ZCurve", "words", "I"), (.int (1)))]), .inr (.long, [(.long (x3)), (.long (x4)), (.long (x5))]), .inr (.long, [(.long (x6))])]) := by
  show W l Z n m6 0 [(.val (.long (x0))), .second, (.val (.long (x1))), .second, (.val (.long (x2))), .second, (.val (.int (0))), (.val (.int (0))), .unset, .unset, .unset, .unset, .unset, .unset] [] [.inl ("com/example/reshelve/reshelve/service/sort/ZCurve", [(("com/example/reshelve/reshelve/service/sort/ZCurve", "dimensions", "I"), (.int (3))), (("com/example/reshelve/reshelve/service/sort/ZCurve", "bits", "I"), (.int (3))), (("com/example/reshelve/reshelve/service/sort/ZCurve", "words", "I"), (.int (1)))]), .inr (.long, [(.long (x3)), (.long (x4)), (.long (x5))]), .inr (.long, [(.long (x6))])] 0 0 _
  refine W.lloadN d6_0 rfl ?_
  refine W.iload d6_1 rfl ?_
  refine W.callsV (M' := m5) d6_3 (hw _ (wd 28 rfl)) (hw _ (wd 29 rfl)) (c5_6 hw x0 x3 x4 x5 x6) (ok5 hw) rfl rfl rfl ?_
  refine W.i2l d6_6 ?_
  refine W.lstore d6_7 rfl ?_
  refine W.lloadN d6_9 rfl ?_
  refine W.iload d6_10 rfl ?_
  refine W.callsV (M' := m5) d6_12 (hw _ (wd 28 rfl)) (hw _ (wd 29 rfl)) (c5_6 hw x1 x3 x4 x5 x6) (ok5 hw) rfl rfl rfl ?_
  refine W.i2l d6_15 ?_
  refine W.lstore d6_16 rfl ?_
  refine W.lload d6_18 rfl ?_
  refine W.iload d6_20 rfl ?_
  refine W.callsV (M' := m5) d6_22 (hw _ (wd 28 rfl)) (hw _ (wd 29 rfl)) (c5_6 hw x2 x3 x4 x5 x6) (ok5 hw) rfl rfl rfl ?_
  refine W.i2l d6_25 ?_
  refine W.lstore d6_26 rfl ?_
  refine W.iload d6_28 rfl ?_
  refine W.if_ne d6_30 (fun h => False.elim (by revert h; decide)) (fun h30 => ?_)
  refine W.lload d6_33 rfl ?_
  refine W.iconst 2 d6_35 rfl ?_
  refine W.lshl d6_36 ?_
  refine W.lload d6_37 rfl ?_
  refine W.iconst 1 d6_39 rfl ?_
  refine W.lshl d6_40 ?_
  refine W.lor d6_41 ?_
  refine W.lload d6_42 rfl ?_
  refine W.lor d6_44 ?_
  exact W.lreturn d6_45 rfl (by decide) (by decide) (⟨rfl, rfl⟩)
set_option maxRecDepth 65536 in
set_option maxHeartbeats 40000000 in
theorem c6_8 {l : Launch} {Z : State} {a0 : Array Value} {n : Nat} (hw : ∀ d ∈ tables_1, d.before a0 Z = true) (x0 : Int64) (x1 : Int64) (x2 : Int64) (x3 : Int64) (x4 : Int64) (x5 : Int64) (x6 : Int64) : W l Z n m6 0 (entryL [(.long (x0)), (.long (x1)), (.long (x2)), (.int (0)), (.int (1))] 14) [] [.inl ("com/example/reshelve/reshelve/service/sort/ZCurve", [(("com/example/reshelve/reshelve/service/sort/ZCurve", "dimensions", "I"), (.int (3))), (("com/example/reshelve/reshelve/service/sort/ZCurve", "bits", "I"), (.int (3))), (("com/example/reshelve/reshelve/service/sort/ZCurve", "words", "I"), (.int (1)))]), .inr (.long, [(.long (x3)), (.long (x4)), (.long (x5))]), .inr (.long, [(.long (x6))])] 0 0 (Is (some (.long (((((((XT.ushrL x1 0) &&& 1).toInt32).toInt64) <<< ((2 : Int32) &&& 0x3f).toInt64) ||| (((((XT.ushrL x2 0) &&& 1).toInt32).toInt64) <<< ((1 : Int32) &&& 0x3f).toInt64)) ||| ((((XT.ushrL x0 0) &&& 1).toInt32).toInt64)))) [.inl ("com/example/reshelve/reshelve/service/sort/ZCurve", [(("com/example/reshelve/reshelve/service/sort/ZCurve", "dimensions", "I"), (.int (3))), (("com/example/reshelve/reshelve/service/sort/ZCurve", "bits", "I"), (.int (3))), (("com/example/reshelve/reshelve/service/sort/ZCurve", "words", "I"), (.int (1)))]), .inr (.long, [(.long (x3)), (.long (x4)), (.long (x5))]), .inr (.long, [(.long (x6))])]) := by
  show W l Z n m6 0 [(.val (.long (x0))), .second, (.val (.long (x1))), .second, (.val (.long (x2))), .second, (.val (.int (0))), (.val (.int (1))), .unset, .unset, .unset, .unset, .unset, .unset] [] [.inl ("com/example/reshelve/reshelve/service/sort/ZCurve", [(("com/example/reshelve/reshelve/service/sort/ZCurve", "dimensions", "I"), (.int (3))), (("com/example/reshelve/reshelve/service/sort/ZCurve", "bits", "I"), (.int (3))), (("com/example/reshelve/reshelve/service/sort/ZCurve", "words", "I"), (.int (1)))]), .inr (.long, [(.long (x3)), (.long (x4)), (.long (x5))]), .inr (.long, [(.long (x6))])] 0 0 _
  refine W.lloadN d6_0 rfl ?_
  refine W.iload d6_1 rfl ?_
  refine W.callsV (M' := m5) d6_3 (hw _ (wd 28 rfl)) (hw _ (wd 29 rfl)) (c5_6 hw x0 x3 x4 x5 x6) (ok5 hw) rfl rfl rfl ?_
  refine W.i2l d6_6 ?_
  refine W.lstore d6_7 rfl ?_
  refine W.lloadN d6_9 rfl ?_
  refine W.iload d6_10 rfl ?_
  refine W.callsV (M' := m5) d6_12 (hw _ (wd 28 rfl)) (hw _ (wd 29 rfl)) (c5_6 hw x1 x3 x4 x5 x6) (ok5 hw) rfl rfl rfl ?_
  refine W.i2l d6_15 ?_
  refine W.lstore d6_16 rfl ?_
  refine W.lload d6_18 rfl ?_
  refine W.iload d6_20 rfl ?_
  refine W.callsV (M' := m5) d6_22 (hw _ (wd 28 rfl)) (hw _ (wd 29 rfl)) (c5_6 hw x2 x3 x4 x5 x6) (ok5 hw) rfl rfl rfl ?_
  refine W.i2l d6_25 ?_
  refine W.lstore d6_26 rfl ?_
  refine W.iload d6_28 rfl ?_
  refine W.if_ne d6_30 (fun h30 => ?_) (fun h => False.elim (by revert h; decide))
  refine W.iload d6_46 rfl ?_
  refine W.iconst 1 d6_48 rfl ?_
  refine W.icmp_ne d6_49 (fun h => False.elim (by revert h; decide)) (fun h49 => ?_)
  refine W.lload d6_52 rfl ?_
  refine W.iconst 2 d6_54 rfl ?_
  refine W.lshl d6_55 ?_
  refine W.lload d6_56 rfl ?_
  refine W.iconst 1 d6_58 rfl ?_
  refine W.lshl d6_59 ?_
  refine W.lor d6_60 ?_
  refine W.lload d6_61 rfl ?_
  refine W.lor d6_63 ?_
  exact W.lreturn d6_64 rfl (by decide) (by decide) (⟨rfl, rfl⟩)
set_option maxRecDepth 65536 in
set_option maxHeartbeats 40000000 in
theorem c6_9 {l : Launch} {Z : State} {a0 : Array Value} {n : Nat} (hw : ∀ d ∈ tables_1, d.before a0 Z = true) (x0 : Int64) (x1 : Int64) (x2 : Int64) (x3 : Int64) (x4 : Int64) (x5 : Int64) (x6 : Int64) : W l Z n m6 0 (entryL [(.long (x0)), (.long (x1)), (.long (x2)), (.int (0)), (.int (2))] 14) [] [.inl ("com/example/reshelve/reshelve/service/sort/ZCurve", [(("com/example/reshelve/reshelve/service/sort/ZCurve", "dimensions", "I"), (.int (3))), (("com/example/reshelve/reshelve/service/sort/ZCurve", "bits", "I"), (.int (3))), (("com/example/reshelve/reshelve/service/sort/ZCurve", "words", "I"), (.int (1)))]), .inr (.long, [(.long (x3)), (.long (x4)), (.long (x5))]), .inr (.long, [(.long (x6))])] 0 0 (Is (some (.long (((((((XT.ushrL x2 0) &&& 1).toInt32).toInt64) <<< ((2 : Int32) &&& 0x3f).toInt64) ||| (((((XT.ushrL x0 0) &&& 1).toInt32).toInt64) <<< ((1 : Int32) &&& 0x3f).toInt64)) ||| ((((XT.ushrL x1 0) &&& 1).toInt32).toInt64)))) [.inl ("com/example/reshelve/reshelve/service/sort/ZCurve", [(("com/example/reshelve/reshelve/service/sort/ZCurve", "dimensions", "I"), (.int (3))), (("com/example/reshelve/reshelve/service/sort/ZCurve", "bits", "I"), (.int (3))), (("com/example/reshelve/reshelve/service/sort/ZCurve", "words", "I"), (.int (1)))]), .inr (.long, [(.long (x3)), (.long (x4)), (.long (x5))]), .inr (.long, [(.long (x6))])]) := by
  show W l Z n m6 0 [(.val (.long (x0))), .second, (.val (.long (x1))), .second, (.val (.long (x2))), .second, (.val (.int (0))), (.val (.int (2))), .unset, .unset, .unset, .unset, .unset, .unset] [] [.inl ("com/example/reshelve/reshelve/service/sort/ZCurve", [(("com/example/reshelve/reshelve/service/sort/ZCurve", "dimensions", "I"), (.int (3))), (("com/example/reshelve/reshelve/service/sort/ZCurve", "bits", "I"), (.int (3))), (("com/example/reshelve/reshelve/service/sort/ZCurve", "words", "I"), (.int (1)))]), .inr (.long, [(.long (x3)), (.long (x4)), (.long (x5))]), .inr (.long, [(.long (x6))])] 0 0 _
  refine W.lloadN d6_0 rfl ?_
  refine W.iload d6_1 rfl ?_
  refine W.callsV (M' := m5) d6_3 (hw _ (wd 28 rfl)) (hw _ (wd 29 rfl)) (c5_6 hw x0 x3 x4 x5 x6) (ok5 hw) rfl rfl rfl ?_
  refine W.i2l d6_6 ?_
  refine W.lstore d6_7 rfl ?_
  refine W.lloadN d6_9 rfl ?_
  refine W.iload d6_10 rfl ?_
  refine W.callsV (M' := m5) d6_12 (hw _ (wd 28 rfl)) (hw _ (wd 29 rfl)) (c5_6 hw x1 x3 x4 x5 x6) (ok5 hw) rfl rfl rfl ?_
  refine W.i2l d6_15 ?_
  refine W.lstore d6_16 rfl ?_
  refine W.lload d6_18 rfl ?_
  refine W.iload d6_20 rfl ?_
  refine W.callsV (M' := m5) d6_22 (hw _ (wd 28 rfl)) (hw _ (wd 29 rfl)) (c5_6 hw x2 x3 x4 x5 x6) (ok5 hw) rfl rfl rfl ?_
  refine W.i2l d6_25 ?_
  refine W.lstore d6_26 rfl ?_
  refine W.iload d6_28 rfl ?_
  refine W.if_ne d6_30 (fun h30 => ?_) (fun h => False.elim (by revert h; decide))
  refine W.iload d6_46 rfl ?_
  refine W.iconst 1 d6_48 rfl ?_
  refine W.icmp_ne d6_49 (fun h49 => ?_) (fun h => False.elim (by revert h; decide))
  refine W.lload d6_65 rfl ?_
  refine W.iconst 2 d6_67 rfl ?_
  refine W.lshl d6_68 ?_
  refine W.lload d6_69 rfl ?_
  refine W.iconst 1 d6_71 rfl ?_
  refine W.lshl d6_72 ?_
  refine W.lor d6_73 ?_
  refine W.lload d6_74 rfl ?_
  refine W.lor d6_76 ?_
  exact W.lreturn d6_77 rfl (by decide) (by decide) (⟨rfl, rfl⟩)
set_option maxRecDepth 65536 in
set_option maxHeartbeats 40000000 in
theorem c6_10 {l : Launch} {Z : State} {a0 : Array Value} {n : Nat} (hw : ∀ d ∈ tables_1, d.before a0 Z = true) (x0 : Int64) (x1 : Int64) (x2 : Int64) (x3 : Int64) (x4 : Int64) (x5 : Int64) (x6 : Int64) : W l Z n m6 0 (entryL [(.long (x0)), (.long (x1)), (.long (x2)), (.int (1)), (.int (1))] 14) [] [.inl ("com/example/reshelve/reshelve/service/sort/ZCurve", [(("com/example/reshelve/reshelve/service/sort/ZCurve", "dimensions", "I"), (.int (3))), (("com/example/reshelve/reshelve/service/sort/ZCurve", "bits", "I"), (.int (3))), (("com/example/reshelve/reshelve/service/sort/ZCurve", "words", "I"), (.int (1)))]), .inr (.long, [(.long (x3)), (.long (x4)), (.long (x5))]), .inr (.long, [(.long (x6))])] 0 0 (Is (some (.long (((((((XT.ushrL x1 1) &&& 1).toInt32).toInt64) <<< ((2 : Int32) &&& 0x3f).toInt64) ||| (((((XT.ushrL x2 1) &&& 1).toInt32).toInt64) <<< ((1 : Int32) &&& 0x3f).toInt64)) ||| ((((XT.ushrL x0 1) &&& 1).toInt32).toInt64)))) [.inl ("com/example/reshelve/reshelve/service/sort/ZCurve", [(("com/example/reshelve/reshelve/service/sort/ZCurve", "dimensions", "I"), (.int (3))), (("com/example/reshelve/reshelve/service/sort/ZCurve", "bits", "I"), (.int (3))), (("com/example/reshelve/reshelve/service/sort/ZCurve", "words", "I"), (.int (1)))]), .inr (.long, [(.long (x3)), (.long (x4)), (.long (x5))]), .inr (.long, [(.long (x6))])]) := by
  show W l Z n m6 0 [(.val (.long (x0))), .second, (.val (.long (x1))), .second, (.val (.long (x2))), .second, (.val (.int (1))), (.val (.int (1))), .unset, .unset, .unset, .unset, .unset, .unset] [] [.inl ("com/example/reshelve/reshelve/service/sort/ZCurve", [(("com/example/reshelve/reshelve/service/sort/ZCurve", "dimensions", "I"), (.int (3))), (("com/example/reshelve/reshelve/service/sort/ZCurve", "bits", "I"), (.int (3))), (("com/example/reshelve/reshelve/service/sort/ZCurve", "words", "I"), (.int (1)))]), .inr (.long, [(.long (x3)), (.long (x4)), (.long (x5))]), .inr (.long, [(.long (x6))])] 0 0 _
  refine W.lloadN d6_0 rfl ?_
  refine W.iload d6_1 rfl ?_
  refine W.callsV (M' := m5) d6_3 (hw _ (wd 28 rfl)) (hw _ (wd 29 rfl)) (c5_2 hw x0 x3 x4 x5 x6) (ok5 hw) rfl rfl rfl ?_
  refine W.i2l d6_6 ?_
  refine W.lstore d6_7 rfl ?_
  refine W.lloadN d6_9 rfl ?_
  refine W.iload d6_10 rfl ?_
  refine W.callsV (M' := m5) d6_12 (hw _ (wd 28 rfl)) (hw _ (wd 29 rfl)) (c5_2 hw x1 x3 x4 x5 x6) (ok5 hw) rfl rfl rfl ?_
  refine W.i2l d6_15 ?_
  refine W.lstore d6_16 rfl ?_
  refine W.lload d6_18 rfl ?_
  refine W.iload d6_20 rfl ?_
  refine W.callsV (M' := m5) d6_22 (hw _ (wd 28 rfl)) (hw _ (wd 29 rfl)) (c5_2 hw x2 x3 x4 x5 x6) (ok5 hw) rfl rfl rfl ?_
  refine W.i2l d6_25 ?_
  refine W.lstore d6_26 rfl ?_
  refine W.iload d6_28 rfl ?_
  refine W.if_ne d6_30 (fun h30 => ?_) (fun h => False.elim (by revert h; decide))
  refine W.iload d6_46 rfl ?_
  refine W.iconst 1 d6_48 rfl ?_
  refine W.icmp_ne d6_49 (fun h => False.elim (by revert h; decide)) (fun h49 => ?_)
  refine W.lload d6_52 rfl ?_
  refine W.iconst 2 d6_54 rfl ?_
  refine W.lshl d6_55 ?_
  refine W.lload d6_56 rfl ?_
  refine W.iconst 1 d6_58 rfl ?_
  refine W.lshl d6_59 ?_
  refine W.lor d6_60 ?_
  refine W.lload d6_61 rfl ?_
  refine W.lor d6_63 ?_
  exact W.lreturn d6_64 rfl (by decide) (by decide) (⟨rfl, rfl⟩)
set_option maxRecDepth 65536 in
set_option maxHeartbeats 40000000 in
theorem c6_11 {l : Launch} {Z : State} {a0 : Array Value} {n : Nat} (hw : ∀ d ∈ tables_1, d.before a0 Z = true) (x0 : Int64) (x1 : Int64) (x2 : Int64) (x3 : Int64) (x4 : Int64) (x5 : Int64) (x6 : Int64) : W l Z n m6 0 (entryL [(.long (x0)), (.long (x1)), (.long (x2)), (.int (1)), (.int (2))] 14) [] [.inl ("com/example/reshelve/reshelve/service/sort/ZCurve", [(("com/example/reshelve/reshelve/service/sort/ZCurve", "dimensions", "I"), (.int (3))), (("com/example/reshelve/reshelve/service/sort/ZCurve", "bits", "I"), (.int (3))), (("com/example/reshelve/reshelve/service/sort/ZCurve", "words", "I"), (.int (1)))]), .inr (.long, [(.long (x3)), (.long (x4)), (.long (x5))]), .inr (.long, [(.long (x6))])] 0 0 (Is (some (.long (((((((XT.ushrL x2 1) &&& 1).toInt32).toInt64) <<< ((2 : Int32) &&& 0x3f).toInt64) ||| (((((XT.ushrL x0 1) &&& 1).toInt32).toInt64) <<< ((1 : Int32) &&& 0x3f).toInt64)) ||| ((((XT.ushrL x1 1) &&& 1).toInt32).toInt64)))) [.inl ("com/example/reshelve/reshelve/service/sort/ZCurve", [(("com/example/reshelve/reshelve/service/sort/ZCurve", "dimensions", "I"), (.int (3))), (("com/example/reshelve/reshelve/service/sort/ZCurve", "bits", "I"), (.int (3))), (("com/example/reshelve/reshelve/service/sort/ZCurve", "words", "I"), (.int (1)))]), .inr (.long, [(.long (x3)), (.long (x4)), (.long (x5))]), .inr (.long, [(.long (x6))])]) := by
  show W l Z n m6 0 [(.val (.long (x0))), .second, (.val (.long (x1))), .second, (.val (.long (x2))), .second, (.val (.int (1))), (.val (.int (2))), .unset, .unset, .unset, .unset, .unset, .unset] [] [.inl ("com/example/reshelve/reshelve/service/sort/ZCurve", [(("com/example/reshelve/reshelve/service/sort/ZCurve", "dimensions", "I"), (.int (3))), (("com/example/reshelve/reshelve/service/sort/ZCurve", "bits", "I"), (.int (3))), (("com/example/reshelve/reshelve/service/sort/ZCurve", "words", "I"), (.int (1)))]), .inr (.long, [(.long (x3)), (.long (x4)), (.long (x5))]), .inr (.long, [(.long (x6))])] 0 0 _
  refine W.lloadN d6_0 rfl ?_
  refine W.iload d6_1 rfl ?_
  refine W.callsV (M' := m5) d6_3 (hw _ (wd 28 rfl)) (hw _ (wd 29 rfl)) (c5_2 hw x0 x3 x4 x5 x6) (ok5 hw) rfl rfl rfl ?_
  refine W.i2l d6_6 ?_
  refine W.lstore d6_7 rfl ?_
  refine W.lloadN d6_9 rfl ?_
  refine W.iload d6_10 rfl ?_
  refine W.callsV (M' := m5) d6_12 (hw _ (wd 28 rfl)) (hw _ (wd 29 rfl)) (c5_2 hw x1 x3 x4 x5 x6) (ok5 hw) rfl rfl rfl ?_
  refine W.i2l d6_15 ?_
  refine W.lstore d6_16 rfl ?_
  refine W.lload d6_18 rfl ?_
  refine W.iload d6_20 rfl ?_
  refine W.callsV (M' := m5) d6_22 (hw _ (wd 28 rfl)) (hw _ (wd 29 rfl)) (c5_2 hw x2 x3 x4 x5 x6) (ok5 hw) rfl rfl rfl ?_
  refine W.i2l d6_25 ?_
  refine W.lstore d6_26 rfl ?_
  refine W.iload d6_28 rfl ?_
  refine W.if_ne d6_30 (fun h30 => ?_) (fun h => False.elim (by revert h; decide))
  refine W.iload d6_46 rfl ?_
  refine W.iconst 1 d6_48 rfl ?_
  refine W.icmp_ne d6_49 (fun h49 => ?_) (fun h => False.elim (by revert h; decide))
  refine W.lload d6_65 rfl ?_
  refine W.iconst 2 d6_67 rfl ?_
  refine W.lshl d6_68 ?_
  refine W.lload d6_69 rfl ?_
  refine W.iconst 1 d6_71 rfl ?_
  refine W.lshl d6_72 ?_
  refine W.lor d6_73 ?_
  refine W.lload d6_74 rfl ?_
  refine W.lor d6_76 ?_
  exact W.lreturn d6_77 rfl (by decide) (by decide) (⟨rfl, rfl⟩)
theorem own_k21 : ∀ t1 t2 t3 : Fin 8, (((((XT.ushrL (Int64.ofNat t1.1) 2) &&& 1).toInt32) + (((XT.ushrL (Int64.ofNat t2.1) 2) &&& 1).toInt32)) + (((XT.ushrL (Int64.ofNat t3.1) 2) &&& 1).toInt32)) % 3 = 0 ∨ (((((XT.ushrL (Int64.ofNat t1.1) 2) &&& 1).toInt32) + (((XT.ushrL (Int64.ofNat t2.1) 2) &&& 1).toInt32)) + (((XT.ushrL (Int64.ofNat t3.1) 2) &&& 1).toInt32)) % 3 = 1 ∨ (((((XT.ushrL (Int64.ofNat t1.1) 2) &&& 1).toInt32) + (((XT.ushrL (Int64.ofNat t2.1) 2) &&& 1).toInt32)) + (((XT.ushrL (Int64.ofNat t3.1) 2) &&& 1).toInt32)) % 3 = 2 := by decide +kernel
theorem own_k22 : ∀ t1 t2 t3 : Fin 8, (0 + (((((XT.ushrL (Int64.ofNat t1.1) 1) &&& 1).toInt32) + (((XT.ushrL (Int64.ofNat t2.1) 1) &&& 1).toInt32)) + (((XT.ushrL (Int64.ofNat t3.1) 1) &&& 1).toInt32))) % 3 = 0 ∨ (0 + (((((XT.ushrL (Int64.ofNat t1.1) 1) &&& 1).toInt32) + (((XT.ushrL (Int64.ofNat t2.1) 1) &&& 1).toInt32)) + (((XT.ushrL (Int64.ofNat t3.1) 1) &&& 1).toInt32))) % 3 = 1 ∨ (0 + (((((XT.ushrL (Int64.ofNat t1.1) 1) &&& 1).toInt32) + (((XT.ushrL (Int64.ofNat t2.1) 1) &&& 1).toInt32)) + (((XT.ushrL (Int64.ofNat t3.1) 1) &&& 1).toInt32))) % 3 = 2 := by decide +kernel
theorem own_k23 : ∀ t1 t2 t3 : Fin 8, (((((XT.ushrL (Int64.ofNat t1.1) 2) &&& 1).toInt32) + (((XT.ushrL (Int64.ofNat t2.1) 2) &&& 1).toInt32)) + (((XT.ushrL (Int64.ofNat t3.1) 2) &&& 1).toInt32)) % 3 = 0 → (0 + (((((XT.ushrL (Int64.ofNat t1.1) 1) &&& 1).toInt32) + (((XT.ushrL (Int64.ofNat t2.1) 1) &&& 1).toInt32)) + (((XT.ushrL (Int64.ofNat t3.1) 1) &&& 1).toInt32))) % 3 = 0 → own_zz t1 t2 t3 = ((((((((((XT.ushrL (Int64.ofNat t1.1) 2) &&& 1).toInt32).toInt64) <<< ((2 : Int32) &&& 0x3f).toInt64) ||| (((((XT.ushrL (Int64.ofNat t2.1) 2) &&& 1).toInt32).toInt64) <<< ((1 : Int32) &&& 0x3f).toInt64)) ||| ((((XT.ushrL (Int64.ofNat t3.1) 2) &&& 1).toInt32).toInt64)) <<< ((6 : Int32) &&& 0x3f).toInt64) ||| ((((((((XT.ushrL (Int64.ofNat t1.1) 1) &&& 1).toInt32).toInt64) <<< ((2 : Int32) &&& 0x3f).toInt64) ||| (((((XT.ushrL (Int64.ofNat t2.1) 1) &&& 1).toInt32).toInt64) <<< ((1 : Int32) &&& 0x3f).toInt64)) ||| ((((XT.ushrL (Int64.ofNat t3.1) 1) &&& 1).toInt32).toInt64)) <<< ((3 : Int32) &&& 0x3f).toInt64)) ||| (((((((XT.ushrL (Int64.ofNat t1.1) 0) &&& 1).toInt32).toInt64) <<< ((2 : Int32) &&& 0x3f).toInt64) ||| (((((XT.ushrL (Int64.ofNat t2.1) 0) &&& 1).toInt32).toInt64) <<< ((1 : Int32) &&& 0x3f).toInt64)) ||| ((((XT.ushrL (Int64.ofNat t3.1) 0) &&& 1).toInt32).toInt64))) <<< ((55 : Int32) &&& 0x3f).toInt64 := by decide +kernel
theorem own_k24 : ∀ t1 t2 t3 : Fin 8, (((((XT.ushrL (Int64.ofNat t1.1) 2) &&& 1).toInt32) + (((XT.ushrL (Int64.ofNat t2.1) 2) &&& 1).toInt32)) + (((XT.ushrL (Int64.ofNat t3.1) 2) &&& 1).toInt32)) % 3 = 0 → (0 + (((((XT.ushrL (Int64.ofNat t1.1) 1) &&& 1).toInt32) + (((XT.ushrL (Int64.ofNat t2.1) 1) &&& 1).toInt32)) + (((XT.ushrL (Int64.ofNat t3.1) 1) &&& 1).toInt32))) % 3 = 1 → own_zz t1 t2 t3 = ((((((((((XT.ushrL (Int64.ofNat t1.1) 2) &&& 1).toInt32).toInt64) <<< ((2 : Int32) &&& 0x3f).toInt64) ||| (((((XT.ushrL (Int64.ofNat t2.1) 2) &&& 1).toInt32).toInt64) <<< ((1 : Int32) &&& 0x3f).toInt64)) ||| ((((XT.ushrL (Int64.ofNat t3.1) 2) &&& 1).toInt32).toInt64)) <<< ((6 : Int32) &&& 0x3f).toInt64) ||| ((((((((XT.ushrL (Int64.ofNat t1.1) 1) &&& 1).toInt32).toInt64) <<< ((2 : Int32) &&& 0x3f).toInt64) ||| (((((XT.ushrL (Int64.ofNat t2.1) 1) &&& 1).toInt32).toInt64) <<< ((1 : Int32) &&& 0x3f).toInt64)) ||| ((((XT.ushrL (Int64.ofNat t3.1) 1) &&& 1).toInt32).toInt64)) <<< ((3 : Int32) &&& 0x3f).toInt64)) ||| (((((((XT.ushrL (Int64.ofNat t2.1) 0) &&& 1).toInt32).toInt64) <<< ((2 : Int32) &&& 0x3f).toInt64) ||| (((((XT.ushrL (Int64.ofNat t3.1) 0) &&& 1).toInt32).toInt64) <<< ((1 : Int32) &&& 0x3f).toInt64)) ||| ((((XT.ushrL (Int64.ofNat t1.1) 0) &&& 1).toInt32).toInt64))) <<< ((55 : Int32) &&& 0x3f).toInt64 := by decide +kernel
theorem own_k25 : ∀ t1 t2 t3 : Fin 8, (((((XT.ushrL (Int64.ofNat t1.1) 2) &&& 1).toInt32) + (((XT.ushrL (Int64.ofNat t2.1) 2) &&& 1).toInt32)) + (((XT.ushrL (Int64.ofNat t3.1) 2) &&& 1).toInt32)) % 3 = 0 → (0 + (((((XT.ushrL (Int64.ofNat t1.1) 1) &&& 1).toInt32) + (((XT.ushrL (Int64.ofNat t2.1) 1) &&& 1).toInt32)) + (((XT.ushrL (Int64.ofNat t3.1) 1) &&& 1).toInt32))) % 3 = 2 → own_zz t1 t2 t3 = ((((((((((XT.ushrL (Int64.ofNat t1.1) 2) &&& 1).toInt32).toInt64) <<< ((2 : Int32) &&& 0x3f).toInt64) ||| (((((XT.ushrL (Int64.ofNat t2.1) 2) &&& 1).toInt32).toInt64) <<< ((1 : Int32) &&& 0x3f).toInt64)) ||| ((((XT.ushrL (Int64.ofNat t3.1) 2) &&& 1).toInt32).toInt64)) <<< ((6 : Int32) &&& 0x3f).toInt64) ||| ((((((((XT.ushrL (Int64.ofNat t1.1) 1) &&& 1).toInt32).toInt64) <<< ((2 : Int32) &&& 0x3f).toInt64) ||| (((((XT.ushrL (Int64.ofNat t2.1) 1) &&& 1).toInt32).toInt64) <<< ((1 : Int32) &&& 0x3f).toInt64)) ||| ((((XT.ushrL (Int64.ofNat t3.1) 1) &&& 1).toInt32).toInt64)) <<< ((3 : Int32) &&& 0x3f).toInt64)) ||| (((((((XT.ushrL (Int64.ofNat t3.1) 0) &&& 1).toInt32).toInt64) <<< ((2 : Int32) &&& 0x3f).toInt64) ||| (((((XT.ushrL (Int64.ofNat t1.1) 0) &&& 1).toInt32).toInt64) <<< ((1 : Int32) &&& 0x3f).toInt64)) ||| ((((XT.ushrL (Int64.ofNat t2.1) 0) &&& 1).toInt32).toInt64))) <<< ((55 : Int32) &&& 0x3f).toInt64 := by decide +kernel
theorem own_k26 : ∀ t1 t2 t3 : Fin 8, (1 + (((((XT.ushrL (Int64.ofNat t1.1) 1) &&& 1).toInt32) + (((XT.ushrL (Int64.ofNat t2.1) 1) &&& 1).toInt32)) + (((XT.ushrL (Int64.ofNat t3.1) 1) &&& 1).toInt32))) % 3 = 0 ∨ (1 + (((((XT.ushrL (Int64.ofNat t1.1) 1) &&& 1).toInt32) + (((XT.ushrL (Int64.ofNat t2.1) 1) &&& 1).toInt32)) + (((XT.ushrL (Int64.ofNat t3.1) 1) &&& 1).toInt32))) % 3 = 1 ∨ (1 + (((((XT.ushrL (Int64.ofNat t1.1) 1) &&& 1).toInt32) + (((XT.ushrL (Int64.ofNat t2.1) 1) &&& 1).toInt32)) + (((XT.ushrL (Int64.ofNat t3.1) 1) &&& 1).toInt32))) % 3 = 2 := by decide +kernel
theorem own_k27 : ∀ t1 t2 t3 : Fin 8, (((((XT.ushrL (Int64.ofNat t1.1) 2) &&& 1).toInt32) + (((XT.ushrL (Int64.ofNat t2.1) 2) &&& 1).toInt32)) + (((XT.ushrL (Int64.ofNat t3.1) 2) &&& 1).toInt32)) % 3 = 1 → (1 + (((((XT.ushrL (Int64.ofNat t1.1) 1) &&& 1).toInt32) + (((XT.ushrL (Int64.ofNat t2.1) 1) &&& 1).toInt32)) + (((XT.ushrL (Int64.ofNat t3.1) 1) &&& 1).toInt32))) % 3 = 0 → own_zz t1 t2 t3 = ((((((((((XT.ushrL (Int64.ofNat t1.1) 2) &&& 1).toInt32).toInt64) <<< ((2 : Int32) &&& 0x3f).toInt64) ||| (((((XT.ushrL (Int64.ofNat t2.1) 2) &&& 1).toInt32).toInt64) <<< ((1 : Int32) &&& 0x3f).toInt64)) ||| ((((XT.ushrL (Int64.ofNat t3.1) 2) &&& 1).toInt32).toInt64)) <<< ((6 : Int32) &&& 0x3f).toInt64) ||| ((((((((XT.ushrL (Int64.ofNat t2.1) 1) &&& 1).toInt32).toInt64) <<< ((2 : Int32) &&& 0x3f).toInt64) ||| (((((XT.ushrL (Int64.ofNat t3.1) 1) &&& 1).toInt32).toInt64) <<< ((1 : Int32) &&& 0x3f).toInt64)) ||| ((((XT.ushrL (Int64.ofNat t1.1) 1) &&& 1).toInt32).toInt64)) <<< ((3 : Int32) &&& 0x3f).toInt64)) ||| (((((((XT.ushrL (Int64.ofNat t1.1) 0) &&& 1).toInt32).toInt64) <<< ((2 : Int32) &&& 0x3f).toInt64) ||| (((((XT.ushrL (Int64.ofNat t2.1) 0) &&& 1).toInt32).toInt64) <<< ((1 : Int32) &&& 0x3f).toInt64)) ||| ((((XT.ushrL (Int64.ofNat t3.1) 0) &&& 1).toInt32).toInt64))) <<< ((55 : Int32) &&& 0x3f).toInt64 := by decide +kernel
theorem own_k28 : ∀ t1 t2 t3 : Fin 8, (((((XT.ushrL (Int64.ofNat t1.1) 2) &&& 1).toInt32) + (((XT.ushrL (Int64.ofNat t2.1) 2) &&& 1).toInt32)) + (((XT.ushrL (Int64.ofNat t3.1) 2) &&& 1).toInt32)) % 3 = 1 → (1 + (((((XT.ushrL (Int64.ofNat t1.1) 1) &&& 1).toInt32) + (((XT.ushrL (Int64.ofNat t2.1) 1) &&& 1).toInt32)) + (((XT.ushrL (Int64.ofNat t3.1) 1) &&& 1).toInt32))) % 3 = 1 → own_zz t1 t2 t3 = ((((((((((XT.ushrL (Int64.ofNat t1.1) 2) &&& 1).toInt32).toInt64) <<< ((2 : Int32) &&& 0x3f).toInt64) ||| (((((XT.ushrL (Int64.ofNat t2.1) 2) &&& 1).toInt32).toInt64) <<< ((1 : Int32) &&& 0x3f).toInt64)) ||| ((((XT.ushrL (Int64.ofNat t3.1) 2) &&& 1).toInt32).toInt64)) <<< ((6 : Int32) &&& 0x3f).toInt64) ||| ((((((((XT.ushrL (Int64.ofNat t2.1) 1) &&& 1).toInt32).toInt64) <<< ((2 : Int32) &&& 0x3f).toInt64) ||| (((((XT.ushrL (Int64.ofNat t3.1) 1) &&& 1).toInt32).toInt64) <<< ((1 : Int32) &&& 0x3f).toInt64)) ||| ((((XT.ushrL (Int64.ofNat t1.1) 1) &&& 1).toInt32).toInt64)) <<< ((3 : Int32) &&& 0x3f).toInt64)) ||| (((((((XT.ushrL (Int64.ofNat t2.1) 0) &&& 1).toInt32).toInt64) <<< ((2 : Int32) &&& 0x3f).toInt64) ||| (((((XT.ushrL (Int64.ofNat t3.1) 0) &&& 1).toInt32).toInt64) <<< ((1 : Int32) &&& 0x3f).toInt64)) ||| ((((XT.ushrL (Int64.ofNat t1.1) 0) &&& 1).toInt32).toInt64))) <<< ((55 : Int32) &&& 0x3f).toInt64 := by decide +kernel
theorem own_k29 : ∀ t1 t2 t3 : Fin 8, (((((XT.ushrL (Int64.ofNat t1.1) 2) &&& 1).toInt32) + (((XT.ushrL (Int64.ofNat t2.1) 2) &&& 1).toInt32)) + (((XT.ushrL (Int64.ofNat t3.1) 2) &&& 1).toInt32)) % 3 = 1 → (1 + (((((XT.ushrL (Int64.ofNat t1.1) 1) &&& 1).toInt32) + (((XT.ushrL (Int64.ofNat t2.1) 1) &&& 1).toInt32)) + (((XT.ushrL (Int64.ofNat t3.1) 1) &&& 1).toInt32))) % 3 = 2 → own_zz t1 t2 t3 = ((((((((((XT.ushrL (Int64.ofNat t1.1) 2) &&& 1).toInt32).toInt64) <<< ((2 : Int32) &&& 0x3f).toInt64) ||| (((((XT.ushrL (Int64.ofNat t2.1) 2) &&& 1).toInt32).toInt64) <<< ((1 : Int32) &&& 0x3f).toInt64)) ||| ((((XT.ushrL (Int64.ofNat t3.1) 2) &&& 1).toInt32).toInt64)) <<< ((6 : Int32) &&& 0x3f).toInt64) ||| ((((((((XT.ushrL (Int64.ofNat t2.1) 1) &&& 1).toInt32).toInt64) <<< ((2 : Int32) &&& 0x3f).toInt64) ||| (((((XT.ushrL (Int64.ofNat t3.1) 1) &&& 1).toInt32).toInt64) <<< ((1 : Int32) &&& 0x3f).toInt64)) ||| ((((XT.ushrL (Int64.ofNat t1.1) 1) &&& 1).toInt32).toInt64)) <<< ((3 : Int32) &&& 0x3f).toInt64)) ||| (((((((XT.ushrL (Int64.ofNat t3.1) 0) &&& 1).toInt32).toInt64) <<< ((2 : Int32) &&& 0x3f).toInt64) ||| (((((XT.ushrL (Int64.ofNat t1.1) 0) &&& 1).toInt32).toInt64) <<< ((1 : Int32) &&& 0x3f).toInt64)) ||| ((((XT.ushrL (Int64.ofNat t2.1) 0) &&& 1).toInt32).toInt64))) <<< ((55 : Int32) &&& 0x3f).toInt64 := by decide +kernel
theorem own_k30 : ∀ t1 t2 t3 : Fin 8, (2 + (((((XT.ushrL (Int64.ofNat t1.1) 1) &&& 1).toInt32) + (((XT.ushrL (Int64.ofNat t2.1) 1) &&& 1).toInt32)) + (((XT.ushrL (Int64.ofNat t3.1) 1) &&& 1).toInt32))) % 3 = 0 ∨ (2 + (((((XT.ushrL (Int64.ofNat t1.1) 1) &&& 1).toInt32) + (((XT.ushrL (Int64.ofNat t2.1) 1) &&& 1).toInt32)) + (((XT.ushrL (Int64.ofNat t3.1) 1) &&& 1).toInt32))) % 3 = 1 ∨ (2 + (((((XT.ushrL (Int64.ofNat t1.1) 1) &&& 1).toInt32) + (((XT.ushrL (Int64.ofNat t2.1) 1) &&& 1).toInt32)) + (((XT.ushrL (Int64.ofNat t3.1) 1) &&& 1).toInt32))) % 3 = 2 := by decide +kernel
theorem own_k31 : ∀ t1 t2 t3 : Fin 8, (((((XT.ushrL (Int64.ofNat t1.1) 2) &&& 1).toInt32) + (((XT.ushrL (Int64.ofNat t2.1) 2) &&& 1).toInt32)) + (((XT.ushrL (Int64.ofNat t3.1) 2) &&& 1).toInt32)) % 3 = 2 → (2 + (((((XT.ushrL (Int64.ofNat t1.1) 1) &&& 1).toInt32) + (((XT.ushrL (Int64.ofNat t2.1) 1) &&& 1).toInt32)) + (((XT.ushrL (Int64.ofNat t3.1) 1) &&& 1).toInt32))) % 3 = 0 → own_zz t1 t2 t3 = ((((((((((XT.ushrL (Int64.ofNat t1.1) 2) &&& 1).toInt32).toInt64) <<< ((2 : Int32) &&& 0x3f).toInt64) ||| (((((XT.ushrL (Int64.ofNat t2.1) 2) &&& 1).toInt32).toInt64) <<< ((1 : Int32) &&& 0x3f).toInt64)) ||| ((((XT.ushrL (Int64.ofNat t3.1) 2) &&& 1).toInt32).toInt64)) <<< ((6 : Int32) &&& 0x3f).toInt64) ||| ((((((((XT.ushrL (Int64.ofNat t3.1) 1) &&& 1).toInt32).toInt64) <<< ((2 : Int32) &&& 0x3f).toInt64) ||| (((((XT.ushrL (Int64.ofNat t1.1) 1) &&& 1).toInt32).toInt64) <<< ((1 : Int32) &&& 0x3f).toInt64)) ||| ((((XT.ushrL (Int64.ofNat t2.1) 1) &&& 1).toInt32).toInt64)) <<< ((3 : Int32) &&& 0x3f).toInt64)) ||| (((((((XT.ushrL (Int64.ofNat t1.1) 0) &&& 1).toInt32).toInt64) <<< ((2 : Int32) &&& 0x3f).toInt64) ||| (((((XT.ushrL (Int64.ofNat t2.1) 0) &&& 1).toInt32).toInt64) <<< ((1 : Int32) &&& 0x3f).toInt64)) ||| ((((XT.ushrL (Int64.ofNat t3.1) 0) &&& 1).toInt32).toInt64))) <<< ((55 : Int32) &&& 0x3f).toInt64 := by decide +kernel
theorem own_k32 : ∀ t1 t2 t3 : Fin 8, (((((XT.ushrL (Int64.ofNat t1.1) 2) &&& 1).toInt32) + (((XT.ushrL (Int64.ofNat t2.1) 2) &&& 1).toInt32)) + (((XT.ushrL (Int64.ofNat t3.1) 2) &&& 1).toInt32)) % 3 = 2 → (2 + (((((XT.ushrL (Int64.ofNat t1.1) 1) &&& 1).toInt32) + (((XT.ushrL (Int64.ofNat t2.1) 1) &&& 1).toInt32)) + (((XT.ushrL (Int64.ofNat t3.1) 1) &&& 1).toInt32))) % 3 = 1 → own_zz t1 t2 t3 = ((((((((((XT.ushrL (Int64.ofNat t1.1) 2) &&& 1).toInt32).toInt64) <<< ((2 : Int32) &&& 0x3f).toInt64) ||| (((((XT.ushrL (Int64.ofNat t2.1) 2) &&& 1).toInt32).toInt64) <<< ((1 : Int32) &&& 0x3f).toInt64)) ||| ((((XT.ushrL (Int64.ofNat t3.1) 2) &&& 1).toInt32).toInt64)) <<< ((6 : Int32) &&& 0x3f).toInt64) ||| ((((((((XT.ushrL (Int64.ofNat t3.1) 1) &&& 1).toInt32).toInt64) <<< ((2 : Int32) &&& 0x3f).toInt64) ||| (((((XT.ushrL (Int64.ofNat t1.1) 1) &&& 1).toInt32).toInt64) <<< ((1 : Int32) &&& 0x3f).toInt64)) ||| ((((XT.ushrL (Int64.ofNat t2.1) 1) &&& 1).toInt32).toInt64)) <<< ((3 : Int32) &&& 0x3f).toInt64)) ||| (((((((XT.ushrL (Int64.ofNat t2.1) 0) &&& 1).toInt32).toInt64) <<< ((2 : Int32) &&& 0x3f).toInt64) ||| (((((XT.ushrL (Int64.ofNat t3.1) 0) &&& 1).toInt32).toInt64) <<< ((1 : Int32) &&& 0x3f).toInt64)) ||| ((((XT.ushrL (Int64.ofNat t1.1) 0) &&& 1).toInt32).toInt64))) <<< ((55 : Int32) &&& 0x3f).toInt64 := by decide +kernel
theorem own_k33 : ∀ t1 t2 t3 : Fin 8, (((((XT.ushrL (Int64.ofNat t1.1) 2) &&& 1).toInt32) + (((XT.ushrL (Int64.ofNat t2.1) 2) &&& 1).toInt32)) + (((XT.ushrL (Int64.ofNat t3.1) 2) &&& 1).toInt32)) % 3 = 2 → (2 + (((((XT.ushrL (Int64.ofNat t1.1) 1) &&& 1).toInt32) + (((XT.ushrL (Int64.ofNat t2.1) 1) &&& 1).toInt32)) + (((XT.ushrL (Int64.ofNat t3.1) 1) &&& 1).toInt32))) % 3 = 2 → own_zz t1 t2 t3 = ((((((((((XT.ushrL (Int64.ofNat t1.1) 2) &&& 1).toInt32).toInt64) <<< ((2 : Int32) &&& 0x3f).toInt64) ||| (((((XT.ushrL (Int64.ofNat t2.1) 2) &&& 1).toInt32).toInt64) <<< ((1 : Int32) &&& 0x3f).toInt64)) ||| ((((XT.ushrL (Int64.ofNat t3.1) 2) &&& 1).toInt32).toInt64)) <<< ((6 : Int32) &&& 0x3f).toInt64) ||| ((((((((XT.ushrL (Int64.ofNat t3.1) 1) &&& 1).toInt32).toInt64) <<< ((2 : Int32) &&& 0x3f).toInt64) ||| (((((XT.ushrL (Int64.ofNat t1.1) 1) &&& 1).toInt32).toInt64) <<< ((1 : Int32) &&& 0x3f).toInt64)) ||| ((((XT.ushrL (Int64.ofNat t2.1) 1) &&& 1).toInt32).toInt64)) <<< ((3 : Int32) &&& 0x3f).toInt64)) ||| (((((((XT.ushrL (Int64.ofNat t3.1) 0) &&& 1).toInt32).toInt64) <<< ((2 : Int32) &&& 0x3f).toInt64) ||| (((((XT.ushrL (Int64.ofNat t1.1) 0) &&& 1).toInt32).toInt64) <<< ((1 : Int32) &&& 0x3f).toInt64)) ||| ((((XT.ushrL (Int64.ofNat t2.1) 0) &&& 1).toInt32).toInt64))) <<< ((55 : Int32) &&& 0x3f).toInt64 := by decide +kernel
set_option maxRecDepth 65536 in
set_option maxHeartbeats 40000000 in
theorem w_law {l : Launch} {Z : State} {a0 : Array Value} {n : Nat} (hw : ∀ d ∈ tables_1, d.before a0 Z = true) (mode sel : Int32) (v x y z : Int64) : W l Z n m0 0 (entryL [.int mode, .int sel, .long v, .long x, .long y, .long z] 22) [] [] 0 0 (fun v _ => v = some (.int 1)) := by
  show W l Z n m0 0 [(.val (.int (mode))), (.val (.int (sel))), (.val (.long (v))), .second, (.val (.long (x))), .second, (.val (.long (y))), .second, (.val (.long (z))), .second, .unset, .unset, .unset, .unset, .unset, .unset, .unset, .unset, .unset, .unset, .unset, .unset] [] [] 0 0 _
  by_cases h3 : mode &&& 1 = 0
  · skip
    refine W.iloadN d0_0 rfl ?_
    refine W.iconst 1 d0_1 rfl ?_
    refine W.iand d0_2 ?_
    refine W.if_ne d0_3 (fun h => False.elim (h h3)) (fun h3 => ?_)
    refine W.iloadN d0_6 rfl ?_
    refine W.ldc d0_7 (hw _ (wd 0 rfl)) ?_
    refine W.iand d0_9 ?_
    refine W.bipush 65 d0_10 rfl ?_
    refine W.irem d0_12 (by decide) ?_
    obtain ⟨b, hb, eb⟩ := own_rem65 sel
    rw [eb]
    refine W.istore d0_13 rfl ?_
    refine W.iload d0_15 rfl ?_
    refine W.bipush 64 d0_17 rfl ?_
    refine W.icmp_ne d0_19 (fun h19 => ?_) (fun h19 => ?_)
    · refine W.lloadN d0_26 rfl ?_
      refine W.lconst 1 d0_27 rfl ?_
      refine W.iload d0_28 rfl ?_
      refine W.lshl d0_30 ?_
      refine W.lconst 1 d0_31 rfl ?_
      refine W.lsub d0_32 ?_
      refine W.land d0_33 ?_
      refine W.lstore d0_34 rfl ?_
      exact w_one hw mode sel v x y z b _ hb (own_mask v b (own_lt64 b hb h19))
    · refine W.lloadN d0_22 rfl ?_
      refine W.goto d0_23 ?_
      refine W.lstore d0_34 rfl ?_
      exact w_one hw mode sel v x y z b _ hb (by rw [own_b64 b hb h19]; exact own_top64 v)
  · skip
    refine W.iloadN d0_0 rfl ?_
    refine W.iconst 1 d0_1 rfl ?_
    refine W.iand d0_2 ?_
    refine W.if_ne d0_3 (fun h3 => ?_) (fun h => False.elim (h3 h))
    refine W.lload d0_109 rfl ?_
    refine W.ldc2 d0_111 (hw _ (wd 23 rfl)) ?_
    refine W.land d0_114 ?_
    obtain ⟨t1, e1⟩ := own_and7 x
    rw [e1]
    refine W.lstore d0_115 rfl ?_
    refine W.lload d0_117 rfl ?_
    refine W.ldc2 d0_119 (hw _ (wd 23 rfl)) ?_
    refine W.land d0_122 ?_
    obtain ⟨t2, e2⟩ := own_and7 y
    rw [e2]
    refine W.lstore d0_123 rfl ?_
    refine W.lload d0_125 rfl ?_
    refine W.ldc2 d0_127 (hw _ (wd 23 rfl)) ?_
    refine W.land d0_130 ?_
    obtain ⟨t3, e3⟩ := own_and7 z
    rw [e3]
    refine W.lstore d0_131 rfl ?_
    refine W.new (N := 0) d0_133 (hw _ (wd 1 rfl)) (okc0 hw) rfl (by decide) (by decide) ?_
    show WB _ l Z n m0 136 [(.val (.int (mode))), (.val (.int (sel))), (.val (.long (v))), .second, (.val (.long (x))), .second, (.val (.long (y))), .second, (.val (.long (z))), .second, (.val (.long (Int64.ofNat t1.1))), .second, (.val (.long (Int64.ofNat t2.1))), .second, (.val (.long (Int64.ofNat t3.1))), .second, .unset, .unset, .unset, .unset, .unset, .unset] [(.ref 0)] [.inl ("com/example/reshelve/reshelve/service/sort/ZCurve", [(("com/example/reshelve/reshelve/service/sort/ZCurve", "dimensions", "I"), (.int (0))), (("com/example/reshelve/reshelve/service/sort/ZCurve", "bits", "I"), (.int (0))), (("com/example/reshelve/reshelve/service/sort/ZCurve", "words", "I"), (.int (0)))])] _ _ _
    refine W.dup d0_136 rfl ?_
    refine W.iconst 3 d0_137 rfl ?_
    refine W.iconst 3 d0_138 rfl ?_
    refine W.initN (M' := m1) d0_139 rfl rfl (hw _ (wd 4 rfl)) (hw _ (wd 5 rfl)) (w1b hw) (ok1 hw) rfl rfl rfl ?_
    refine W.astore d0_142 rfl rfl ?_
    refine W.aload d0_144 rfl rfl ?_
    refine W.iconst 3 d0_146 rfl ?_
    refine W.newarray (N := 1) (cnt := 3) (cap := 3) d0_147 (hw _ (wd 17 rfl)) ⟨by decide, by decide⟩ rfl (Nat.le_refl _) (by decide) (by decide) (by decide) ?_
    refine W.dup d0_149 rfl ?_
    refine W.iconst 0 d0_150 rfl ?_
    refine W.lload d0_151 rfl ?_
    refine W.lastore (i := 0) d0_153 rfl ⟨by decide, by decide⟩ (by simp) ?_
    refine W.dup d0_154 rfl ?_
    refine W.iconst 1 d0_155 rfl ?_
    refine W.lload d0_156 rfl ?_
    refine W.lastore (i := 1) d0_158 rfl ⟨by decide, by decide⟩ (by simp) ?_
    show WB _ l Z n m0 159 [(.val (.int (mode))), (.val (.int (sel))), (.val (.long (v))), .second, (.val (.long (x))), .second, (.val (.long (y))), .second, (.val (.long (z))), .second, (.val (.long (Int64.ofNat t1.1))), .second, (.val (.long (Int64.ofNat t2.1))), .second, (.val (.long (Int64.ofNat t3.1))), .second, (.val (.ref 0)), .unset, .unset, .unset, .unset, .unset] [(.ref 1), (.ref 0)] [.inl ("com/example/reshelve/reshelve/service/sort/ZCurve", [(("com/example/reshelve/reshelve/service/sort/ZCurve", "dimensions", "I"), (.int (3))), (("com/example/reshelve/reshelve/service/sort/ZCurve", "bits", "I"), (.int (3))), (("com/example/reshelve/reshelve/service/sort/ZCurve", "words", "I"), (.int (1)))]), .inr (.long, [(.long (Int64.ofNat t1.1)), (.long (Int64.ofNat t2.1)), (.long (0))])] _ _ _
    refine W.dup d0_159 rfl ?_
    refine W.iconst 2 d0_160 rfl ?_
    refine W.lload d0_161 rfl ?_
    refine W.lastore (i := 2) d0_163 rfl ⟨by decide, by decide⟩ (by simp) ?_
    refine W.callvV (M' := m3) d0_164 (hw _ (wd 18 rfl)) (hw _ (wd 19 rfl)) (hw _ (wd 20 rfl)) (hw _ (wd 21 rfl)) (w3b hw t1 t2 t3) (ok3 hw) rfl rfl rfl rfl ?_
    refine W.astore d0_167 rfl rfl ?_
    refine W.lload d0_169 rfl ?_
    refine W.lload d0_171 rfl ?_
    refine W.lload d0_173 rfl ?_
    refine W.iconst 2 d0_175 rfl ?_
    refine W.callsV (M' := m4) d0_176 (hw _ (wd 24 rfl)) (hw _ (wd 25 rfl)) (c4_1 hw (Int64.ofNat t1.1) (Int64.ofNat t2.1) (Int64.ofNat t3.1) (Int64.ofNat t1.1) (Int64.ofNat t2.1) (Int64.ofNat t3.1) (own_zz t1 t2 t3)) (ok4 hw) rfl rfl rfl ?_
    refine W.iconst 3 d0_179 rfl ?_
    refine W.irem d0_180 (by decide) ?_
    rcases own_k21 t1 t2 t3 with q1 | q1 | q1
    · rw [q1]
      refine W.istore d0_181 rfl ?_
      refine W.iload d0_183 rfl ?_
      refine W.lload d0_185 rfl ?_
      refine W.lload d0_187 rfl ?_
      refine W.lload d0_189 rfl ?_
      refine W.iconst 1 d0_191 rfl ?_
      refine W.callsV (M' := m4) d0_192 (hw _ (wd 24 rfl)) (hw _ (wd 25 rfl)) (c4_3 hw (Int64.ofNat t1.1) (Int64.ofNat t2.1) (Int64.ofNat t3.1) (Int64.ofNat t1.1) (Int64.ofNat t2.1) (Int64.ofNat t3.1) (own_zz t1 t2 t3)) (ok4 hw) rfl rfl rfl ?_
      refine W.iadd d0_195 ?_
      refine W.iconst 3 d0_196 rfl ?_
      refine W.irem d0_197 (by decide) ?_
      rcases own_k22 t1 t2 t3 with q0 | q0 | q0
      · rw [q0]
        refine W.istore d0_198 rfl ?_
        show WB _ l Z n m0 200 [(.val (.int (mode))), (.val (.int (sel))), (.val (.long (v))), .second, (.val (.long (x))), .second, (.val (.long (y))), .second, (.val (.long (z))), .second, (.val (.long (Int64.ofNat t1.1))), .second, (.val (.long (Int64.ofNat t2.1))), .second, (.val (.long (Int64.ofNat t3.1))), .second, (.val (.ref 0)), (.val (.ref 2)), (.val (.int (0))), (.val (.int (0))), .unset, .unset] [] [.inl ("com/example/reshelve/reshelve/service/sort/ZCurve", [(("com/example/reshelve/reshelve/service/sort/ZCurve", "dimensions", "I"), (.int (3))), (("com/example/reshelve/reshelve/service/sort/ZCurve", "bits", "I"), (.int (3))), (("com/example/reshelve/reshelve/service/sort/ZCurve", "words", "I"), (.int (1)))]), .inr (.long, [(.long ((Int64.ofNat t1.1))), (.long ((Int64.ofNat t2.1))), (.long ((Int64.ofNat t3.1)))]), .inr (.long, [(.long ((own_zz t1 t2 t3)))])] _ _ _
        refine W.lload d0_200 rfl ?_
        refine W.lload d0_202 rfl ?_
        refine W.lload d0_204 rfl ?_
        refine W.iconst 2 d0_206 rfl ?_
        refine W.iconst 0 d0_207 rfl ?_
        refine W.callsV (M' := m6) d0_208 (hw _ (wd 31 rfl)) (hw _ (wd 32 rfl)) (c6_4 hw (Int64.ofNat t1.1) (Int64.ofNat t2.1) (Int64.ofNat t3.1) (Int64.ofNat t1.1) (Int64.ofNat t2.1) (Int64.ofNat t3.1) (own_zz t1 t2 t3)) (ok6 hw) rfl rfl rfl ?_
        refine W.bipush 6 d0_211 rfl ?_
        refine W.lshl d0_213 ?_
        refine W.lload d0_214 rfl ?_
        refine W.lload d0_216 rfl ?_
        refine W.lload d0_218 rfl ?_
        refine W.iconst 1 d0_220 rfl ?_
        refine W.iload d0_221 rfl ?_
        refine W.callsV (M' := m6) d0_223 (hw _ (wd 31 rfl)) (hw _ (wd 32 rfl)) (c6_5 hw (Int64.ofNat t1.1) (Int64.ofNat t2.1) (Int64.ofNat t3.1) (Int64.ofNat t1.1) (Int64.ofNat t2.1) (Int64.ofNat t3.1) (own_zz t1 t2 t3)) (ok6 hw) rfl rfl rfl ?_
        refine W.iconst 3 d0_226 rfl ?_
        refine W.lshl d0_227 ?_
        refine W.lor d0_228 ?_
        refine W.lload d0_229 rfl ?_
        refine W.lload d0_231 rfl ?_
        refine W.lload d0_233 rfl ?_
        refine W.iconst 0 d0_235 rfl ?_
        refine W.iload d0_236 rfl ?_
        refine W.callsV (M' := m6) d0_238 (hw _ (wd 31 rfl)) (hw _ (wd 32 rfl)) (c6_7 hw (Int64.ofNat t1.1) (Int64.ofNat t2.1) (Int64.ofNat t3.1) (Int64.ofNat t1.1) (Int64.ofNat t2.1) (Int64.ofNat t3.1) (own_zz t1 t2 t3)) (ok6 hw) rfl rfl rfl ?_
        refine W.lor d0_241 ?_
        refine W.bipush 55 d0_242 rfl ?_
        refine W.lshl d0_244 ?_
        refine W.lstore d0_245 rfl ?_
        refine W.aload d0_247 rfl rfl ?_
        refine W.arraylength 1 d0_249 rfl rfl rfl ?_
        refine W.iconst 1 d0_250 rfl ?_
        refine W.icmp_ne d0_251 (fun h => False.elim (by revert h; decide)) (fun h251 => ?_)
        refine W.aload d0_254 rfl rfl ?_
        refine W.iconst 0 d0_256 rfl ?_
        refine W.laload (i := 0) d0_257 rfl ⟨by decide, by decide⟩ rfl ?_
        refine W.lload d0_258 rfl ?_
        refine W.lcmp d0_260 ?_
        refine W.ifl_ne d0_261 (fun h => False.elim (h (own_k23 t1 t2 t3 q1 q0))) (fun h261 => ?_)
        refine W.iconst 1 d0_264 rfl ?_
        refine W.goto d0_265 ?_
        exact W.nreturn .boolean d0_269 rfl (by simp) (by decide) (by decide) (rfl)
      · rw [q0]
        refine W.istore d0_198 rfl ?_
        show WB _ l Z n m0 200 [(.val (.int (mode))), (.val (.int (sel))), (.val (.long (v))), .second, (.val (.long (x))), .second, (.val (.long (y))), .second, (.val (.long (z))), .second, (.val (.long (Int64.ofNat t1.1))), .second, (.val (.long (Int64.ofNat t2.1))), .second, (.val (.long (Int64.ofNat t3.1))), .second, (.val (.ref 0)), (.val (.ref 2)), (.val (.int (0))), (.val (.int (1))), .unset, .unset] [] [.inl ("com/example/reshelve/reshelve/service/sort/ZCurve", [(("com/example/reshelve/reshelve/service/sort/ZCurve", "dimensions", "I"), (.int (3))), (("com/example/reshelve/reshelve/service/sort/ZCurve", "bits", "I"), (.int (3))), (("com/example/reshelve/reshelve/service/sort/ZCurve", "words", "I"), (.int (1)))]), .inr (.long, [(.long ((Int64.ofNat t1.1))), (.long ((Int64.ofNat t2.1))), (.long ((Int64.ofNat t3.1)))]), .inr (.long, [(.long ((own_zz t1 t2 t3)))])] _ _ _
        refine W.lload d0_200 rfl ?_
        refine W.lload d0_202 rfl ?_
        refine W.lload d0_204 rfl ?_
        refine W.iconst 2 d0_206 rfl ?_
        refine W.iconst 0 d0_207 rfl ?_
        refine W.callsV (M' := m6) d0_208 (hw _ (wd 31 rfl)) (hw _ (wd 32 rfl)) (c6_4 hw (Int64.ofNat t1.1) (Int64.ofNat t2.1) (Int64.ofNat t3.1) (Int64.ofNat t1.1) (Int64.ofNat t2.1) (Int64.ofNat t3.1) (own_zz t1 t2 t3)) (ok6 hw) rfl rfl rfl ?_
        refine W.bipush 6 d0_211 rfl ?_
        refine W.lshl d0_213 ?_
        refine W.lload d0_214 rfl ?_
        refine W.lload d0_216 rfl ?_
        refine W.lload d0_218 rfl ?_
        refine W.iconst 1 d0_220 rfl ?_
        refine W.iload d0_221 rfl ?_
        refine W.callsV (M' := m6) d0_223 (hw _ (wd 31 rfl)) (hw _ (wd 32 rfl)) (c6_5 hw (Int64.ofNat t1.1) (Int64.ofNat t2.1) (Int64.ofNat t3.1) (Int64.ofNat t1.1) (Int64.ofNat t2.1) (Int64.ofNat t3.1) (own_zz t1 t2 t3)) (ok6 hw) rfl rfl rfl ?_
        refine W.iconst 3 d0_226 rfl ?_
        refine W.lshl d0_227 ?_
        refine W.lor d0_228 ?_
        refine W.lload d0_229 rfl ?_
        refine W.lload d0_231 rfl ?_
        refine W.lload d0_233 rfl ?_
        refine W.iconst 0 d0_235 rfl ?_
        refine W.iload d0_236 rfl ?_
        refine W.callsV (M' := m6) d0_238 (hw _ (wd 31 rfl)) (hw _ (wd 32 rfl)) (c6_8 hw (Int64.ofNat t1.1) (Int64.ofNat t2.1) (Int64.ofNat t3.1) (Int64.ofNat t1.1) (Int64.ofNat t2.1) (Int64.ofNat t3.1) (own_zz t1 t2 t3)) (ok6 hw) rfl rfl rfl ?_
        refine W.lor d0_241 ?_
        refine W.bipush 55 d0_242 rfl ?_
        refine W.lshl d0_244 ?_
        refine W.lstore d0_245 rfl ?_
        refine W.aload d0_247 rfl rfl ?_
        refine W.arraylength 1 d0_249 rfl rfl rfl ?_
        refine W.iconst 1 d0_250 rfl ?_
        refine W.icmp_ne d0_251 (fun h => False.elim (by revert h; decide)) (fun h251 => ?_)
        refine W.aload d0_254 rfl rfl ?_
        refine W.iconst 0 d0_256 rfl ?_
        refine W.laload (i := 0) d0_257 rfl ⟨by decide, by decide⟩ rfl ?_
        refine W.lload d0_258 rfl ?_
        refine W.lcmp d0_260 ?_
        refine W.ifl_ne d0_261 (fun h => False.elim (h (own_k24 t1 t2 t3 q1 q0))) (fun h261 => ?_)
        refine W.iconst 1 d0_264 rfl ?_
        refine W.goto d0_265 ?_
        exact W.nreturn .boolean d0_269 rfl (by simp) (by decide) (by decide) (rfl)
      · rw [q0]
        refine W.istore d0_198 rfl ?_
        show WB _ l Z n m0 200 [(.val (.int (mode))), (.val (.int (sel))), (.val (.long (v))), .second, (.val (.long (x))), .second, (.val (.long (y))), .second, (.val (.long (z))), .second, (.val (.long (Int64.ofNat t1.1))), .second, (.val (.long (Int64.ofNat t2.1))), .second, (.val (.long (Int64.ofNat t3.1))), .second, (.val (.ref 0)), (.val (.ref 2)), (.val (.int (0))), (.val (.int (2))), .unset, .unset] [] [.inl ("com/example/reshelve/reshelve/service/sort/ZCurve", [(("com/example/reshelve/reshelve/service/sort/ZCurve", "dimensions", "I"), (.int (3))), (("com/example/reshelve/reshelve/service/sort/ZCurve", "bits", "I"), (.int (3))), (("com/example/reshelve/reshelve/service/sort/ZCurve", "words", "I"), (.int (1)))]), .inr (.long, [(.long ((Int64.ofNat t1.1))), (.long ((Int64.ofNat t2.1))), (.long ((Int64.ofNat t3.1)))]), .inr (.long, [(.long ((own_zz t1 t2 t3)))])] _ _ _
        refine W.lload d0_200 rfl ?_
        refine W.lload d0_202 rfl ?_
        refine W.lload d0_204 rfl ?_
        refine W.iconst 2 d0_206 rfl ?_
        refine W.iconst 0 d0_207 rfl ?_
        refine W.callsV (M' := m6) d0_208 (hw _ (wd 31 rfl)) (hw _ (wd 32 rfl)) (c6_4 hw (Int64.ofNat t1.1) (Int64.ofNat t2.1) (Int64.ofNat t3.1) (Int64.ofNat t1.1) (Int64.ofNat t2.1) (Int64.ofNat t3.1) (own_zz t1 t2 t3)) (ok6 hw) rfl rfl rfl ?_
        refine W.bipush 6 d0_211 rfl ?_
        refine W.lshl d0_213 ?_
        refine W.lload d0_214 rfl ?_
        refine W.lload d0_216 rfl ?_
        refine W.lload d0_218 rfl ?_
        refine W.iconst 1 d0_220 rfl ?_
        refine W.iload d0_221 rfl ?_
        refine W.callsV (M' := m6) d0_223 (hw _ (wd 31 rfl)) (hw _ (wd 32 rfl)) (c6_5 hw (Int64.ofNat t1.1) (Int64.ofNat t2.1) (Int64.ofNat t3.1) (Int64.ofNat t1.1) (Int64.ofNat t2.1) (Int64.ofNat t3.1) (own_zz t1 t2 t3)) (ok6 hw) rfl rfl rfl ?_
        refine W.iconst 3 d0_226 rfl ?_
        refine W.lshl d0_227 ?_
        refine W.lor d0_228 ?_
        refine W.lload d0_229 rfl ?_
        refine W.lload d0_231 rfl ?_
        refine W.lload d0_233 rfl ?_
        refine W.iconst 0 d0_235 rfl ?_
        refine W.iload d0_236 rfl ?_
        refine W.callsV (M' := m6) d0_238 (hw _ (wd 31 rfl)) (hw _ (wd 32 rfl)) (c6_9 hw (Int64.ofNat t1.1) (Int64.ofNat t2.1) (Int64.ofNat t3.1) (Int64.ofNat t1.1) (Int64.ofNat t2.1) (Int64.ofNat t3.1) (own_zz t1 t2 t3)) (ok6 hw) rfl rfl rfl ?_
        refine W.lor d0_241 ?_
        refine W.bipush 55 d0_242 rfl ?_
        refine W.lshl d0_244 ?_
        refine W.lstore d0_245 rfl ?_
        refine W.aload d0_247 rfl rfl ?_
        refine W.arraylength 1 d0_249 rfl rfl rfl ?_
        refine W.iconst 1 d0_250 rfl ?_
        refine W.icmp_ne d0_251 (fun h => False.elim (by revert h; decide)) (fun h251 => ?_)
        refine W.aload d0_254 rfl rfl ?_
        refine W.iconst 0 d0_256 rfl ?_
        refine W.laload (i := 0) d0_257 rfl ⟨by decide, by decide⟩ rfl ?_
        refine W.lload d0_258 rfl ?_
        refine W.lcmp d0_260 ?_
        refine W.ifl_ne d0_261 (fun h => False.elim (h (own_k25 t1 t2 t3 q1 q0))) (fun h261 => ?_)
        refine W.iconst 1 d0_264 rfl ?_
        refine W.goto d0_265 ?_
        exact W.nreturn .boolean d0_269 rfl (by simp) (by decide) (by decide) (rfl)
    · rw [q1]
      refine W.istore d0_181 rfl ?_
      refine W.iload d0_183 rfl ?_
      refine W.lload d0_185 rfl ?_
      refine W.lload d0_187 rfl ?_
      refine W.lload d0_189 rfl ?_
      refine W.iconst 1 d0_191 rfl ?_
      refine W.callsV (M' := m4) d0_192 (hw _ (wd 24 rfl)) (hw _ (wd 25 rfl)) (c4_3 hw (Int64.ofNat t1.1) (Int64.ofNat t2.1) (Int64.ofNat t3.1) (Int64.ofNat t1.1) (Int64.ofNat t2.1) (Int64.ofNat t3.1) (own_zz t1 t2 t3)) (ok4 hw) rfl rfl rfl ?_
      refine W.iadd d0_195 ?_
      refine W.iconst 3 d0_196 rfl ?_
      refine W.irem d0_197 (by decide) ?_
      rcases own_k26 t1 t2 t3 with q0 | q0 | q0
      · rw [q0]
        refine W.istore d0_198 rfl ?_
        show WB _ l Z n m0 200 [(.val (.int (mode))), (.val (.int (sel))), (.val (.long (v))), .second, (.val (.long (x))), .second, (.val (.long (y))), .second, (.val (.long (z))), .second, (.val (.long (Int64.ofNat t1.1))), .second, (.val (.long (Int64.ofNat t2.1))), .second, (.val (.long (Int64.ofNat t3.1))), .second, (.val (.ref 0)), (.val (.ref 2)), (.val (.int (1))), (.val (.int (0))), .unset, .unset] [] [.inl ("com/example/reshelve/reshelve/service/sort/ZCurve", [(("com/example/reshelve/reshelve/service/sort/ZCurve", "dimensions", "I"), (.int (3))), (("com/example/reshelve/reshelve/service/sort/ZCurve", "bits", "I"), (.int (3))), (("com/example/reshelve/reshelve/service/sort/ZCurve", "words", "I"), (.int (1)))]), .inr (.long, [(.long ((Int64.ofNat t1.1))), (.long ((Int64.ofNat t2.1))), (.long ((Int64.ofNat t3.1)))]), .inr (.long, [(.long ((own_zz t1 t2 t3)))])] _ _ _
        refine W.lload d0_200 rfl ?_
        refine W.lload d0_202 rfl ?_
        refine W.lload d0_204 rfl ?_
        refine W.iconst 2 d0_206 rfl ?_
        refine W.iconst 0 d0_207 rfl ?_
        refine W.callsV (M' := m6) d0_208 (hw _ (wd 31 rfl)) (hw _ (wd 32 rfl)) (c6_4 hw (Int64.ofNat t1.1) (Int64.ofNat t2.1) (Int64.ofNat t3.1) (Int64.ofNat t1.1) (Int64.ofNat t2.1) (Int64.ofNat t3.1) (own_zz t1 t2 t3)) (ok6 hw) rfl rfl rfl ?_
        refine W.bipush 6 d0_211 rfl ?_
        refine W.lshl d0_213 ?_
        refine W.lload d0_214 rfl ?_
        refine W.lload d0_216 rfl ?_
        refine W.lload d0_218 rfl ?_
        refine W.iconst 1 d0_220 rfl ?_
        refine W.iload d0_221 rfl ?_
        refine W.callsV (M' := m6) d0_223 (hw _ (wd 31 rfl)) (hw _ (wd 32 rfl)) (c6_10 hw (Int64.ofNat t1.1) (Int64.ofNat t2.1) (Int64.ofNat t3.1) (Int64.ofNat t1.1) (Int64.ofNat t2.1) (Int64.ofNat t3.1) (own_zz t1 t2 t3)) (ok6 hw) rfl rfl rfl ?_
        refine W.iconst 3 d0_226 rfl ?_
        refine W.lshl d0_227 ?_
        refine W.lor d0_228 ?_
        refine W.lload d0_229 rfl ?_
        refine W.lload d0_231 rfl ?_
        refine W.lload d0_233 rfl ?_
        refine W.iconst 0 d0_235 rfl ?_
        refine W.iload d0_236 rfl ?_
        refine W.callsV (M' := m6) d0_238 (hw _ (wd 31 rfl)) (hw _ (wd 32 rfl)) (c6_7 hw (Int64.ofNat t1.1) (Int64.ofNat t2.1) (Int64.ofNat t3.1) (Int64.ofNat t1.1) (Int64.ofNat t2.1) (Int64.ofNat t3.1) (own_zz t1 t2 t3)) (ok6 hw) rfl rfl rfl ?_
        refine W.lor d0_241 ?_
        refine W.bipush 55 d0_242 rfl ?_
        refine W.lshl d0_244 ?_
        refine W.lstore d0_245 rfl ?_
        refine W.aload d0_247 rfl rfl ?_
        refine W.arraylength 1 d0_249 rfl rfl rfl ?_
        refine W.iconst 1 d0_250 rfl ?_
        refine W.icmp_ne d0_251 (fun h => False.elim (by revert h; decide)) (fun h251 => ?_)
        refine W.aload d0_254 rfl rfl ?_
        refine W.iconst 0 d0_256 rfl ?_
        refine W.laload (i := 0) d0_257 rfl ⟨by decide, by decide⟩ rfl ?_
        refine W.lload d0_258 rfl ?_
        refine W.lcmp d0_260 ?_
        refine W.ifl_ne d0_261 (fun h => False.elim (h (own_k27 t1 t2 t3 q1 q0))) (fun h261 => ?_)
        refine W.iconst 1 d0_264 rfl ?_
        refine W.goto d0_265 ?_
        exact W.nreturn .boolean d0_269 rfl (by simp) (by decide) (by decide) (rfl)
      · rw [q0]
        refine W.istore d0_198 rfl ?_
        show WB _ l Z n m0 200 [(.val (.int (mode))), (.val (.int (sel))), (.val (.long (v))), .second, (.val (.long (x))), .second, (.val (.long (y))), .second, (.val (.long (z))), .second, (.val (.long (Int64.ofNat t1.1))), .second, (.val (.long (Int64.ofNat t2.1))), .second, (.val (.long (Int64.ofNat t3.1))), .second, (.val (.ref 0)), (.val (.ref 2)), (.val (.int (1))), (.val (.int (1))), .unset, .unset] [] [.inl ("com/example/reshelve/reshelve/service/sort/ZCurve", [(("com/example/reshelve/reshelve/service/sort/ZCurve", "dimensions", "I"), (.int (3))), (("com/example/reshelve/reshelve/service/sort/ZCurve", "bits", "I"), (.int (3))), (("com/example/reshelve/reshelve/service/sort/ZCurve", "words", "I"), (.int (1)))]), .inr (.long, [(.long ((Int64.ofNat t1.1))), (.long ((Int64.ofNat t2.1))), (.long ((Int64.ofNat t3.1)))]), .inr (.long, [(.long ((own_zz t1 t2 t3)))])] _ _ _
        refine W.lload d0_200 rfl ?_
        refine W.lload d0_202 rfl ?_
        refine W.lload d0_204 rfl ?_
        refine W.iconst 2 d0_206 rfl ?_
        refine W.iconst 0 d0_207 rfl ?_
        refine W.callsV (M' := m6) d0_208 (hw _ (wd 31 rfl)) (hw _ (wd 32 rfl)) (c6_4 hw (Int64.ofNat t1.1) (Int64.ofNat t2.1) (Int64.ofNat t3.1) (Int64.ofNat t1.1) (Int64.ofNat t2.1) (Int64.ofNat t3.1) (own_zz t1 t2 t3)) (ok6 hw) rfl rfl rfl ?_
        refine W.bipush 6 d0_211 rfl ?_
        refine W.lshl d0_213 ?_
        refine W.lload d0_214 rfl ?_
        refine W.lload d0_216 rfl ?_
        refine W.lload d0_218 rfl ?_
        refine W.iconst 1 d0_220 rfl ?_
        refine W.iload d0_221 rfl ?_
        refine W.callsV (M' := m6) d0_223 (hw _ (wd 31 rfl)) (hw _ (wd 32 rfl)) (c6_10 hw (Int64.ofNat t1.1) (Int64.ofNat t2.1) (Int64.ofNat t3.1) (Int64.ofNat t1.1) (Int64.ofNat t2.1) (Int64.ofNat t3.1) (own_zz t1 t2 t3)) (ok6 hw) rfl rfl rfl ?_
        refine W.iconst 3 d0_226 rfl ?_
        refine W.lshl d0_227 ?_
        refine W.lor d0_228 ?_
        refine W.lload d0_229 rfl ?_
        refine W.lload d0_231 rfl ?_
        refine W.lload d0_233 rfl ?_
        refine W.iconst 0 d0_235 rfl ?_
        refine W.iload d0_236 rfl ?_
        refine W.callsV (M' := m6) d0_238 (hw _ (wd 31 rfl)) (hw _ (wd 32 rfl)) (c6_8 hw (Int64.ofNat t1.1) (Int64.ofNat t2.1) (Int64.ofNat t3.1) (Int64.ofNat t1.1) (Int64.ofNat t2.1) (Int64.ofNat t3.1) (own_zz t1 t2 t3)) (ok6 hw) rfl rfl rfl ?_
        refine W.lor d0_241 ?_
        refine W.bipush 55 d0_242 rfl ?_
        refine W.lshl d0_244 ?_
        refine W.lstore d0_245 rfl ?_
        refine W.aload d0_247 rfl rfl ?_
        refine W.arraylength 1 d0_249 rfl rfl rfl ?_
        refine W.iconst 1 d0_250 rfl ?_
        refine W.icmp_ne d0_251 (fun h => False.elim (by revert h; decide)) (fun h251 => ?_)
        refine W.aload d0_254 rfl rfl ?_
        refine W.iconst 0 d0_256 rfl ?_
        refine W.laload (i := 0) d0_257 rfl ⟨by decide, by decide⟩ rfl ?_
        refine W.lload d0_258 rfl ?_
        refine W.lcmp d0_260 ?_
        refine W.ifl_ne d0_261 (fun h => False.elim (h (own_k28 t1 t2 t3 q1 q0))) (fun h261 => ?_)
        refine W.iconst 1 d0_264 rfl ?_
        refine W.goto d0_265 ?_
        exact W.nreturn .boolean d0_269 rfl (by simp) (by decide) (by decide) (rfl)
      · rw [q0]
        refine W.istore d0_198 rfl ?_
        show WB _ l Z n m0 200 [(.val (.int (mode))), (.val (.int (sel))), (.val (.long (v))), .second, (.val (.long (x))), .second, (.val (.long (y))), .second, (.val (.long (z))), .second, (.val (.long (Int64.ofNat t1.1))), .second, (.val (.long (Int64.ofNat t2.1))), .second, (.val (.long (Int64.ofNat t3.1))), .second, (.val (.ref 0)), (.val (.ref 2)), (.val (.int (1))), (.val (.int (2))), .unset, .unset] [] [.inl ("com/example/reshelve/reshelve/service/sort/ZCurve", [(("com/example/reshelve/reshelve/service/sort/ZCurve", "dimensions", "I"), (.int (3))), (("com/example/reshelve/reshelve/service/sort/ZCurve", "bits", "I"), (.int (3))), (("com/example/reshelve/reshelve/service/sort/ZCurve", "words", "I"), (.int (1)))]), .inr (.long, [(.long ((Int64.ofNat t1.1))), (.long ((Int64.ofNat t2.1))), (.long ((Int64.ofNat t3.1)))]), .inr (.long, [(.long ((own_zz t1 t2 t3)))])] _ _ _
        refine W.lload d0_200 rfl ?_
        refine W.lload d0_202 rfl ?_
        refine W.lload d0_204 rfl ?_
        refine W.iconst 2 d0_206 rfl ?_
        refine W.iconst 0 d0_207 rfl ?_
        refine W.callsV (M' := m6) d0_208 (hw _ (wd 31 rfl)) (hw _ (wd 32 rfl)) (c6_4 hw (Int64.ofNat t1.1) (Int64.ofNat t2.1) (Int64.ofNat t3.1) (Int64.ofNat t1.1) (Int64.ofNat t2.1) (Int64.ofNat t3.1) (own_zz t1 t2 t3)) (ok6 hw) rfl rfl rfl ?_
        refine W.bipush 6 d0_211 rfl ?_
        refine W.lshl d0_213 ?_
        refine W.lload d0_214 rfl ?_
        refine W.lload d0_216 rfl ?_
        refine W.lload d0_218 rfl ?_
        refine W.iconst 1 d0_220 rfl ?_
        refine W.iload d0_221 rfl ?_
        refine W.callsV (M' := m6) d0_223 (hw _ (wd 31 rfl)) (hw _ (wd 32 rfl)) (c6_10 hw (Int64.ofNat t1.1) (Int64.ofNat t2.1) (Int64.ofNat t3.1) (Int64.ofNat t1.1) (Int64.ofNat t2.1) (Int64.ofNat t3.1) (own_zz t1 t2 t3)) (ok6 hw) rfl rfl rfl ?_
        refine W.iconst 3 d0_226 rfl ?_
        refine W.lshl d0_227 ?_
        refine W.lor d0_228 ?_
        refine W.lload d0_229 rfl ?_
        refine W.lload d0_231 rfl ?_
        refine W.lload d0_233 rfl ?_
        refine W.iconst 0 d0_235 rfl ?_
        refine W.iload d0_236 rfl ?_
        refine W.callsV (M' := m6) d0_238 (hw _ (wd 31 rfl)) (hw _ (wd 32 rfl)) (c6_9 hw (Int64.ofNat t1.1) (Int64.ofNat t2.1) (Int64.ofNat t3.1) (Int64.ofNat t1.1) (Int64.ofNat t2.1) (Int64.ofNat t3.1) (own_zz t1 t2 t3)) (ok6 hw) rfl rfl rfl ?_
        refine W.lor d0_241 ?_
        refine W.bipush 55 d0_242 rfl ?_
        refine W.lshl d0_244 ?_
        refine W.lstore d0_245 rfl ?_
        refine W.aload d0_247 rfl rfl ?_
        refine W.arraylength 1 d0_249 rfl rfl rfl ?_
        refine W.iconst 1 d0_250 rfl ?_
        refine W.icmp_ne d0_251 (fun h => False.elim (by revert h; decide)) (fun h251 => ?_)
        refine W.aload d0_254 rfl rfl ?_
        refine W.iconst 0 d0_256 rfl ?_
        refine W.laload (i := 0) d0_257 rfl ⟨by decide, by decide⟩ rfl ?_
        refine W.lload d0_258 rfl ?_
        refine W.lcmp d0_260 ?_
        refine W.ifl_ne d0_261 (fun h => False.elim (h (own_k29 t1 t2 t3 q1 q0))) (fun h261 => ?_)
        refine W.iconst 1 d0_264 rfl ?_
        refine W.goto d0_265 ?_
        exact W.nreturn .boolean d0_269 rfl (by simp) (by decide) (by decide) (rfl)
    · rw [q1]
      refine W.istore d0_181 rfl ?_
      refine W.iload d0_183 rfl ?_
      refine W.lload d0_185 rfl ?_
      refine W.lload d0_187 rfl ?_
      refine W.lload d0_189 rfl ?_
      refine W.iconst 1 d0_191 rfl ?_
      refine W.callsV (M' := m4) d0_192 (hw _ (wd 24 rfl)) (hw _ (wd 25 rfl)) (c4_3 hw (Int64.ofNat t1.1) (Int64.ofNat t2.1) (Int64.ofNat t3.1) (Int64.ofNat t1.1) (Int64.ofNat t2.1) (Int64.ofNat t3.1) (own_zz t1 t2 t3)) (ok4 hw) rfl rfl rfl ?_
      refine W.iadd d0_195 ?_
      refine W.iconst 3 d0_196 rfl ?_
      refine W.irem d0_197 (by decide) ?_
      rcases own_k30 t1 t2 t3 with q0 | q0 | q0
      · rw [q0]
        refine W.istore d0_198 rfl ?_
        show WB _ l Z n m0 200 [(.val (.int (mode))), (.val (.int (sel))), (.val (.long (v))), .second, (.val (.long (x))), .second, (.val (.long (y))), .second, (.val (.long (z))), .second, (.val (.long (Int64.ofNat t1.1))), .second, (.val (.long (Int64.ofNat t2.1))), .second, (.val (.long (Int64.ofNat t3.1))), .second, (.val (.ref 0)), (.val (.ref 2)), (.val (.int (2))), (.val (.int (0))), .unset, .unset] [] [.inl ("com/example/reshelve/reshelve/service/sort/ZCurve", [(("com/example/reshelve/reshelve/service/sort/ZCurve", "dimensions", "I"), (.int (3))), (("com/example/reshelve/reshelve/service/sort/ZCurve", "bits", "I"), (.int (3))), (("com/example/reshelve/reshelve/service/sort/ZCurve", "words", "I"), (.int (1)))]), .inr (.long, [(.long ((Int64.ofNat t1.1))), (.long ((Int64.ofNat t2.1))), (.long ((Int64.ofNat t3.1)))]), .inr (.long, [(.long ((own_zz t1 t2 t3)))])] _ _ _
        refine W.lload d0_200 rfl ?_
        refine W.lload d0_202 rfl ?_
        refine W.lload d0_204 rfl ?_
        refine W.iconst 2 d0_206 rfl ?_
        refine W.iconst 0 d0_207 rfl ?_
        refine W.callsV (M' := m6) d0_208 (hw _ (wd 31 rfl)) (hw _ (wd 32 rfl)) (c6_4 hw (Int64.ofNat t1.1) (Int64.ofNat t2.1) (Int64.ofNat t3.1) (Int64.ofNat t1.1) (Int64.ofNat t2.1) (Int64.ofNat t3.1) (own_zz t1 t2 t3)) (ok6 hw) rfl rfl rfl ?_
        refine W.bipush 6 d0_211 rfl ?_
        refine W.lshl d0_213 ?_
        refine W.lload d0_214 rfl ?_
        refine W.lload d0_216 rfl ?_
        refine W.lload d0_218 rfl ?_
        refine W.iconst 1 d0_220 rfl ?_
        refine W.iload d0_221 rfl ?_
        refine W.callsV (M' := m6) d0_223 (hw _ (wd 31 rfl)) (hw _ (wd 32 rfl)) (c6_11 hw (Int64.ofNat t1.1) (Int64.ofNat t2.1) (Int64.ofNat t3.1) (Int64.ofNat t1.1) (Int64.ofNat t2.1) (Int64.ofNat t3.1) (own_zz t1 t2 t3)) (ok6 hw) rfl rfl rfl ?_
        refine W.iconst 3 d0_226 rfl ?_
        refine W.lshl d0_227 ?_
        refine W.lor d0_228 ?_
        refine W.lload d0_229 rfl ?_
        refine W.lload d0_231 rfl ?_
        refine W.lload d0_233 rfl ?_
        refine W.iconst 0 d0_235 rfl ?_
        refine W.iload d0_236 rfl ?_
        refine W.callsV (M' := m6) d0_238 (hw _ (wd 31 rfl)) (hw _ (wd 32 rfl)) (c6_7 hw (Int64.ofNat t1.1) (Int64.ofNat t2.1) (Int64.ofNat t3.1) (Int64.ofNat t1.1) (Int64.ofNat t2.1) (Int64.ofNat t3.1) (own_zz t1 t2 t3)) (ok6 hw) rfl rfl rfl ?_
        refine W.lor d0_241 ?_
        refine W.bipush 55 d0_242 rfl ?_
        refine W.lshl d0_244 ?_
        refine W.lstore d0_245 rfl ?_
        refine W.aload d0_247 rfl rfl ?_
        refine W.arraylength 1 d0_249 rfl rfl rfl ?_
        refine W.iconst 1 d0_250 rfl ?_
        refine W.icmp_ne d0_251 (fun h => False.elim (by revert h; decide)) (fun h251 => ?_)
        refine W.aload d0_254 rfl rfl ?_
        refine W.iconst 0 d0_256 rfl ?_
        refine W.laload (i := 0) d0_257 rfl ⟨by decide, by decide⟩ rfl ?_
        refine W.lload d0_258 rfl ?_
        refine W.lcmp d0_260 ?_
        refine W.ifl_ne d0_261 (fun h => False.elim (h (own_k31 t1 t2 t3 q1 q0))) (fun h261 => ?_)
        refine W.iconst 1 d0_264 rfl ?_
        refine W.goto d0_265 ?_
        exact W.nreturn .boolean d0_269 rfl (by simp) (by decide) (by decide) (rfl)
      · rw [q0]
        refine W.istore d0_198 rfl ?_
        show WB _ l Z n m0 200 [(.val (.int (mode))), (.val (.int (sel))), (.val (.long (v))), .second, (.val (.long (x))), .second, (.val (.long (y))), .second, (.val (.long (z))), .second, (.val (.long (Int64.ofNat t1.1))), .second, (.val (.long (Int64.ofNat t2.1))), .second, (.val (.long (Int64.ofNat t3.1))), .second, (.val (.ref 0)), (.val (.ref 2)), (.val (.int (2))), (.val (.int (1))), .unset, .unset] [] [.inl ("com/example/reshelve/reshelve/service/sort/ZCurve", [(("com/example/reshelve/reshelve/service/sort/ZCurve", "dimensions", "I"), (.int (3))), (("com/example/reshelve/reshelve/service/sort/ZCurve", "bits", "I"), (.int (3))), (("com/example/reshelve/reshelve/service/sort/ZCurve", "words", "I"), (.int (1)))]), .inr (.long, [(.long ((Int64.ofNat t1.1))), (.long ((Int64.ofNat t2.1))), (.long ((Int64.ofNat t3.1)))]), .inr (.long, [(.long ((own_zz t1 t2 t3)))])] _ _ _
        refine W.lload d0_200 rfl ?_
        refine W.lload d0_202 rfl ?_
        refine W.lload d0_204 rfl ?_
        refine W.iconst 2 d0_206 rfl ?_
        refine W.iconst 0 d0_207 rfl ?_
        refine W.callsV (M' := m6) d0_208 (hw _ (wd 31 rfl)) (hw _ (wd 32 rfl)) (c6_4 hw (Int64.ofNat t1.1) (Int64.ofNat t2.1) (Int64.ofNat t3.1) (Int64.ofNat t1.1) (Int64.ofNat t2.1) (Int64.ofNat t3.1) (own_zz t1 t2 t3)) (ok6 hw) rfl rfl rfl ?_
        refine W.bipush 6 d0_211 rfl ?_
        refine W.lshl d0_213 ?_
        refine W.lload d0_214 rfl ?_
        refine W.lload d0_216 rfl ?_
        refine W.lload d0_218 rfl ?_
        refine W.iconst 1 d0_220 rfl ?_
        refine W.iload d0_221 rfl ?_
        refine W.callsV (M' := m6) d0_223 (hw _ (wd 31 rfl)) (hw _ (wd 32 rfl)) (c6_11 hw (Int64.ofNat t1.1) (Int64.ofNat t2.1) (Int64.ofNat t3.1) (Int64.ofNat t1.1) (Int64.ofNat t2.1) (Int64.ofNat t3.1) (own_zz t1 t2 t3)) (ok6 hw) rfl rfl rfl ?_
        refine W.iconst 3 d0_226 rfl ?_
        refine W.lshl d0_227 ?_
        refine W.lor d0_228 ?_
        refine W.lload d0_229 rfl ?_
        refine W.lload d0_231 rfl ?_
        refine W.lload d0_233 rfl ?_
        refine W.iconst 0 d0_235 rfl ?_
        refine W.iload d0_236 rfl ?_
        refine W.callsV (M' := m6) d0_238 (hw _ (wd 31 rfl)) (hw _ (wd 32 rfl)) (c6_8 hw (Int64.ofNat t1.1) (Int64.ofNat t2.1) (Int64.ofNat t3.1) (Int64.ofNat t1.1) (Int64.ofNat t2.1) (Int64.ofNat t3.1) (own_zz t1 t2 t3)) (ok6 hw) rfl rfl rfl ?_
        refine W.lor d0_241 ?_
        refine W.bipush 55 d0_242 rfl ?_
        refine W.lshl d0_244 ?_
        refine W.lstore d0_245 rfl ?_
        refine W.aload d0_247 rfl rfl ?_
        refine W.arraylength 1 d0_249 rfl rfl rfl ?_
        refine W.iconst 1 d0_250 rfl ?_
        refine W.icmp_ne d0_251 (fun h => False.elim (by revert h; decide)) (fun h251 => ?_)
        refine W.aload d0_254 rfl rfl ?_
        refine W.iconst 0 d0_256 rfl ?_
        refine W.laload (i := 0) d0_257 rfl ⟨by decide, by decide⟩ rfl ?_
        refine W.lload d0_258 rfl ?_
        refine W.lcmp d0_260 ?_
        refine W.ifl_ne d0_261 (fun h => False.elim (h (own_k32 t1 t2 t3 q1 q0))) (fun h261 => ?_)
        refine W.iconst 1 d0_264 rfl ?_
        refine W.goto d0_265 ?_
        exact W.nreturn .boolean d0_269 rfl (by simp) (by decide) (by decide) (rfl)
      · rw [q0]
        refine W.istore d0_198 rfl ?_
        show WB _ l Z n m0 200 [(.val (.int (mode))), (.val (.int (sel))), (.val (.long (v))), .second, (.val (.long (x))), .second, (.val (.long (y))), .second, (.val (.long (z))), .second, (.val (.long (Int64.ofNat t1.1))), .second, (.val (.long (Int64.ofNat t2.1))), .second, (.val (.long (Int64.ofNat t3.1))), .second, (.val (.ref 0)), (.val (.ref 2)), (.val (.int (2))), (.val (.int (2))), .unset, .unset] [] [.inl ("com/example/reshelve/reshelve/service/sort/ZCurve", [(("com/example/reshelve/reshelve/service/sort/ZCurve", "dimensions", "I"), (.int (3))), (("com/example/reshelve/reshelve/service/sort/ZCurve", "bits", "I"), (.int (3))), (("com/example/reshelve/reshelve/service/sort/ZCurve", "words", "I"), (.int (1)))]), .inr (.long, [(.long ((Int64.ofNat t1.1))), (.long ((Int64.ofNat t2.1))), (.long ((Int64.ofNat t3.1)))]), .inr (.long, [(.long ((own_zz t1 t2 t3)))])] _ _ _
        refine W.lload d0_200 rfl ?_
        refine W.lload d0_202 rfl ?_
        refine W.lload d0_204 rfl ?_
        refine W.iconst 2 d0_206 rfl ?_
        refine W.iconst 0 d0_207 rfl ?_
        refine W.callsV (M' := m6) d0_208 (hw _ (wd 31 rfl)) (hw _ (wd 32 rfl)) (c6_4 hw (Int64.ofNat t1.1) (Int64.ofNat t2.1) (Int64.ofNat t3.1) (Int64.ofNat t1.1) (Int64.ofNat t2.1) (Int64.ofNat t3.1) (own_zz t1 t2 t3)) (ok6 hw) rfl rfl rfl ?_
        refine W.bipush 6 d0_211 rfl ?_
        refine W.lshl d0_213 ?_
        refine W.lload d0_214 rfl ?_
        refine W.lload d0_216 rfl ?_
        refine W.lload d0_218 rfl ?_
        refine W.iconst 1 d0_220 rfl ?_
        refine W.iload d0_221 rfl ?_
        refine W.callsV (M' := m6) d0_223 (hw _ (wd 31 rfl)) (hw _ (wd 32 rfl)) (c6_11 hw (Int64.ofNat t1.1) (Int64.ofNat t2.1) (Int64.ofNat t3.1) (Int64.ofNat t1.1) (Int64.ofNat t2.1) (Int64.ofNat t3.1) (own_zz t1 t2 t3)) (ok6 hw) rfl rfl rfl ?_
        refine W.iconst 3 d0_226 rfl ?_
        refine W.lshl d0_227 ?_
        refine W.lor d0_228 ?_
        refine W.lload d0_229 rfl ?_
        refine W.lload d0_231 rfl ?_
        refine W.lload d0_233 rfl ?_
        refine W.iconst 0 d0_235 rfl ?_
        refine W.iload d0_236 rfl ?_
        refine W.callsV (M' := m6) d0_238 (hw _ (wd 31 rfl)) (hw _ (wd 32 rfl)) (c6_9 hw (Int64.ofNat t1.1) (Int64.ofNat t2.1) (Int64.ofNat t3.1) (Int64.ofNat t1.1) (Int64.ofNat t2.1) (Int64.ofNat t3.1) (own_zz t1 t2 t3)) (ok6 hw) rfl rfl rfl ?_
        refine W.lor d0_241 ?_
        refine W.bipush 55 d0_242 rfl ?_
        refine W.lshl d0_244 ?_
        refine W.lstore d0_245 rfl ?_
        refine W.aload d0_247 rfl rfl ?_
        refine W.arraylength 1 d0_249 rfl rfl rfl ?_
        refine W.iconst 1 d0_250 rfl ?_
        refine W.icmp_ne d0_251 (fun h => False.elim (by revert h; decide)) (fun h251 => ?_)
        refine W.aload d0_254 rfl rfl ?_
        refine W.iconst 0 d0_256 rfl ?_
        refine W.laload (i := 0) d0_257 rfl ⟨by decide, by decide⟩ rfl ?_
        refine W.lload d0_258 rfl ?_
        refine W.lcmp d0_260 ?_
        refine W.ifl_ne d0_261 (fun h => False.elim (h (own_k33 t1 t2 t3 q1 q0))) (fun h261 => ?_)
        refine W.iconst 1 d0_264 rfl ?_
        refine W.goto d0_265 ?_
        exact W.nreturn .boolean d0_269 rfl (by simp) (by decide) (by decide) (rfl)
set_option maxRecDepth 65536 in
set_option maxHeartbeats 40000000 in
theorem comes_1 {Post : Tables → Env → Array Value → State → Outcome → State → Prop} (hpost : ∀ tb e args s v u, (limb_1_1.after args s (.returned v) u = true ∧ limb_1_2.after args s (.returned v) u = true ∧ True) → FrameEnd s (.returned v) u (Jvm.fieldLocs frame_1_writes args s ++ Jvm.arrayLocs frame_1_arrays args s ++ Jvm.staticLocs frame_1_statics s) 16 128 → Post tb e args s (.returned v) u) :
    ArmFor flags0 classFile x code maxLocals ret World_1 tables_1 room_1 Calls_1 rest_1 Pre_1 Post := by
  intro l hfl _ _ p e ha hc hk s m args below hf hA hF happ hP
  obtain ⟨hcalls, hrest, hpre⟩ := hP
  obtain ⟨-, -, -, hnamed, -, -, -, hat⟩ := (Spec.applies_iff hf).mp happ
  obtain ⟨hg, hn⟩ := and_e (Cond.before_iff.mp (show (Jvm.Cond.and given_1 narrow_1).before args s = true from hpre))
  obtain ⟨hcnt, g0⟩ := and_e hg
  obtain ⟨q0, g1⟩ := and_e g0
  obtain ⟨q1, g2⟩ := and_e g1
  obtain ⟨q2, g3⟩ := and_e g2
  obtain ⟨q3, g4⟩ := and_e g3
  obtain ⟨q4, g5⟩ := and_e g4
  obtain ⟨w0, w1, w2, w3, w4, w5, rfl⟩ : ∃ w0 w1 w2 w3 w4 w5 : Value, args = #[w0, w1, w2, w3, w4, w5] := by
    have hs : args.size = 6 := by simpa [Cond.value, given_1] using hcnt
    obtain ⟨L⟩ := args
    match L, hs with
    | [w0, w1, w2, w3, w4, w5], _ => exact ⟨w0, w1, w2, w3, w4, w5, rfl⟩
  have hw := fun d (hd : d ∈ tables_1) => atoms_spec (ws := Jvm.Cond.code x code maxLocals ret :: tables_1) hat d (List.mem_cons_of_mem _ hd)
  obtain ⟨i0, ei0⟩ := is_v q0
  obtain rfl : w0 = (.int i0) := Option.some.inj ei0
  obtain ⟨i1, ei1⟩ := is_v q1
  obtain rfl : w1 = (.int i1) := Option.some.inj ei1
  obtain ⟨i2, ei2⟩ := isL_v q2
  obtain rfl : w2 = (.long i2) := Option.some.inj ei2
  obtain ⟨i3, ei3⟩ := isL_v q3
  obtain rfl : w3 = (.long i3) := Option.some.inj ei3
  obtain ⟨i4, ei4⟩ := isL_v q4
  obtain rfl : w4 = (.long i4) := Option.some.inj ei4
  obtain ⟨i5, ei5⟩ := isL_v g5
  obtain rfl : w5 = (.long i5) := Option.some.inj ei5
  obtain ⟨n, o, h1, h2, h3, _, L, rfl, ⟨v0, H', rfl, rfl, hH, N⟩, hq⟩ := W.start (M := m0) (w_law (l := l) hw i0 i1 i2 i3 i4 i5) pn0 tables_1 p e ha hc hk s m _ below hf ((Spec.applies_iff_loose hf).mp happ).1 ⟨rfl, State.Warmed39.refl s, rfl⟩ trivial
  refine ⟨n, _, h1, h2, h3, hpost _ _ _ _ _ _ ⟨Cond.after_iff.mpr rfl, Cond.after_iff.mpr (eq_i res_at (Term.int_eval (1)) rfl), trivial⟩ ⟨hq.1, hq.2.1, (hq.2.2.sift fun y hy => Or.inr (N y hy)).mono (by decide) (by decide)⟩⟩
theorem main_1_1 : Claimed_1_1 := comes_1 fun _ _ _ _ _ _ h hF => ⟨h.1, hF⟩
theorem main_1_2 : Claimed_1_2 := comes_1 fun _ _ _ _ _ _ h hF => ⟨h.2.1, hF⟩
end Jvm.Pilot.@@N@@
namespace Jvm.Pilot.@@N@@
open Jvm Jvm.ClassFile Sem Op Lib Jvm.Free Jvm.Stand Jvm.Pilot.@@N@@.Jvm.D
/-! MADE BY PROGRAM (witnessworld.py) out of the Statement's table words and the real class files: 12 classes; the members and pool entries that the words name. The judged class is class 1, her method 4. -/
namespace start1
open Jvm.ClassFile
def u (s : String) : CpInfo := .utf8 (stringToUtf16 s)
/-- a pool by its gaps: so many unusable entries, then the entry; so many at the end -/
def gap : Nat → List CpInfo → List CpInfo
  | 0, r => r
  | n + 1, r => .unusable :: gap n r
def poolList (es : List (Nat × CpInfo)) (last : Nat) : List CpInfo := es.foldr (fun e r => gap e.1 (e.2 :: r)) (gap last [])
def pool (es : List (Nat × CpInfo)) (last : Nat) : Array CpInfo := ⟨poolList es last⟩
def fileOf (pool : Array CpInfo) (this : Nat) (attrs : Array Attribute := #[]) (ms : Array MethodInfo := #[]) (fl : Nat := 33) (sup : Nat := 0) (ifs : Array Nat := #[]) (fds : Array FieldInfo := #[]) : ClassFile where
  minorVersion := 0
  majorVersion := 65
  constantPool := pool
  accessFlags := fl
  thisClass := this
  superClass := sup
  interfaces := ifs
  fields := fds
  methods := ms
  attributes := attrs
def plain (name : String) (sup : Option ClassId) : Class where
  name := name
  kind := .ordinary
  loader := none
  accessFlags := 33
  super := sup
  interfaces := #[]
  cf := none
  fields := #[]
  methods := #[]
  instanceTypes := #[]
  staticTypes := #[]
  resolved := #[]
  callSites := []
  init := .initialized
  statics := none
  mirror := none

def pool0 : Array CpInfo := pool [(5, u "<init>"), (0, u "()V"), (1, .class_ 10), (1, u "java/lang/Object")] 113

def k0c0 : Code := { maxStack := 0, maxLocals := 1, code := object_method_1_code, exceptionTable := #[], attributes := #[] }
def k0m0 : Method := { name := "<init>", desc := "()V", sig := { parameters := [], returnType := none }, accessFlags := 1, code := some k0c0 }
/-- java/lang/Object -/
def k0 : Class := { plain "java/lang/Object" none with
  accessFlags := 33
  interfaces := #[]
  cf := some (fileOf pool0 8 #[] #[{ accessFlags := 1, nameIndex := 5, descriptorIndex := 6, attributes := #[] }] 33 0 #[] #[])
  fields := #[]
  methods := #[k0m0]
  instanceTypes := #[]
  staticTypes := #[]
  resolved := Array.replicate 124 none
  statics := none }

def pool1 : Array CpInfo := pool [(2, .class_ 4), (1, u "java/lang/Object"), (0, u "<init>"), (0, u "()V"), (0, .methodref 8 9), (0, .class_ 10), (0, .nameAndType 11 12), (0, u "com/example/reshelve/reshelve/service/sort/ZCurveIndexPinLaw"), (0, u "bit"), (0, u "(JI)I"), (0, .integer 2147483647), (0, .class_ 15), (0, u "com/example/reshelve/reshelve/service/sort/ZCurve"), (0, .methodref 14 17), (0, .nameAndType 5 18), (0, u "(II)V"), (0, .methodref 14 20), (0, .nameAndType 21 22), (0, u "index"), (0, u "([J)[J"), (0, .long 7), (1, .methodref 8 26), (0, .nameAndType 27 28), (0, u "ones"), (0, u "(JJJI)I"), (0, .methodref 8 30), (0, .nameAndType 31 32), (0, u "lvl"), (0, u "(JJJII)J"), (3, u "law"), (0, u "(IIJJJJ)Z")] 4

def k1m0 : Method := { name := "<init>", desc := "()V", sig := { parameters := [], returnType := none }, accessFlags := 1, code := none }
def k1c1 : Code := { maxStack := 4, maxLocals := 3, code := method_2_code, exceptionTable := #[], attributes := #[] }
def k1m1 : Method := { name := "bit", desc := "(JI)I", sig := { parameters := [.long, .int], returnType := some .int }, accessFlags := 10, code := some k1c1 }
def k1c2 : Code := { maxStack := 4, maxLocals := 7, code := method_3_code, exceptionTable := #[], attributes := #[] }
def k1m2 : Method := { name := "ones", desc := "(JJJI)I", sig := { parameters := [.long, .long, .long, .int], returnType := some .int }, accessFlags := 10, code := some k1c2 }
def k1c3 : Code := { maxStack := 5, maxLocals := 14, code := method_4_code, exceptionTable := #[], attributes := #[] }
def k1m3 : Method := { name := "lvl", desc := "(JJJII)J", sig := { parameters := [.long, .long, .long, .int, .int], returnType := some .long }, accessFlags := 10, code := some k1c3 }
def k1c4 : Code := { maxStack := 10, maxLocals := 22, code := code, exceptionTable := #[], attributes := #[] }
def k1m4 : Method := { name := "law", desc := "(IIJJJJ)Z", sig := { parameters := [.int, .int, .long, .long, .long, .long], returnType := some .boolean }, accessFlags := 9, code := some k1c4 }
/-- com/example/reshelve/reshelve/service/sort/ZCurveIndexPinLaw -/
def k1 : Class := { plain "com/example/reshelve/reshelve/service/sort/ZCurveIndexPinLaw" (some 0) with
  accessFlags := 49
  interfaces := #[]
  cf := some (fileOf pool1 8 #[] #[{ accessFlags := 1, nameIndex := 5, descriptorIndex := 6, attributes := #[] }, { accessFlags := 10, nameIndex := 11, descriptorIndex := 12, attributes := #[] }, { accessFlags := 10, nameIndex := 27, descriptorIndex := 28, attributes := #[] }, { accessFlags := 10, nameIndex := 31, descriptorIndex := 32, attributes := #[] }, { accessFlags := 9, nameIndex := 36, descriptorIndex := 37, attributes := #[] }] 49 2 #[] #[])
  fields := #[]
  methods := #[k1m0, k1m1, k1m2, k1m3, k1m4]
  instanceTypes := #[]
  staticTypes := #[]
  resolved := Array.replicate 42 none
  statics := none }

def pool2 : Array CpInfo := pool [(1, .class_ 2), (0, u "com/example/reshelve/reshelve/service/sort/Curve"), (0, .class_ 4), (0, u "java/lang/Object")] 6

/-- com/example/reshelve/reshelve/service/sort/Curve -/
def k2 : Class := { plain "com/example/reshelve/reshelve/service/sort/Curve" (some 0) with
  accessFlags := 1536
  interfaces := #[]
  cf := some (fileOf pool2 1 #[] #[] 1536 3 #[] #[])
  fields := #[]
  methods := #[]
  instanceTypes := #[]
  staticTypes := #[]
  resolved := Array.replicate 11 none
  statics := none }

def pool3 : Array CpInfo := pool [(1, .methodref 2 3), (0, .class_ 4), (0, .nameAndType 5 6), (0, u "java/lang/Object"), (0, u "<init>"), (0, u "()V"), (11, .fieldref 19 20), (0, .class_ 21), (0, .nameAndType 22 23), (0, u "com/example/reshelve/reshelve/service/sort/ZCurve"), (0, u "dimensions"), (0, u "I"), (0, .fieldref 19 25), (0, .nameAndType 26 23), (0, u "bits"), (0, .long 64), (1, .fieldref 19 30), (0, .nameAndType 31 23), (0, u "words"), (0, .class_ 33), (0, u "com/example/reshelve/reshelve/service/sort/Curve"), (0, u "(II)V"), (4, u "index"), (0, u "([J)[J")] 19

def k3c0 : Code := { maxStack := 5, maxLocals := 3, code := prog_92_method_1_code, exceptionTable := #[], attributes := #[] }
def k3m0 : Method := { name := "<init>", desc := "(II)V", sig := { parameters := [.int, .int], returnType := none }, accessFlags := 0, code := some k3c0 }
def k3c1 : Code := { maxStack := 6, maxLocals := 14, code := prog_92_method_3_code, exceptionTable := #[], attributes := #[] }
def k3m1 : Method := { name := "index", desc := "([J)[J", sig := { parameters := [(.array .long)], returnType := some (.array .long) }, accessFlags := 1, code := some k3c1 }
/-- com/example/reshelve/reshelve/service/sort/ZCurve -/
def k3 : Class := { plain "com/example/reshelve/reshelve/service/sort/ZCurve" (some 0) with
  accessFlags := 48
  interfaces := #[2]
  cf := some (fileOf pool3 19 #[] #[{ accessFlags := 0, nameIndex := 5, descriptorIndex := 34, attributes := #[] }, { accessFlags := 1, nameIndex := 39, descriptorIndex := 40, attributes := #[] }] 48 2 #[32] #[{ accessFlags := 18, nameIndex := 22, descriptorIndex := 23, attributes := #[] }, { accessFlags := 18, nameIndex := 26, descriptorIndex := 23, attributes := #[] }, { accessFlags := 18, nameIndex := 31, descriptorIndex := 23, attributes := #[] }])
  fields := #[{ name := "dimensions", type := .int, accessFlags := 18, slot := 0, constantValue := 0 }, { name := "bits", type := .int, accessFlags := 18, slot := 1, constantValue := 0 }, { name := "words", type := .int, accessFlags := 18, slot := 2, constantValue := 0 }]
  methods := #[k3m0, k3m1]
  instanceTypes := #[.int, .int, .int]
  staticTypes := #[]
  resolved := Array.replicate 60 none
  statics := none }

def pool4 : Array CpInfo := pool [(1, u "java/lang/Cloneable"), (0, .class_ 1), (0, u "java/lang/Object"), (0, .class_ 3)] 3

/-- java/lang/Cloneable -/
def k4 : Class := { plain "java/lang/Cloneable" (some 0) with
  accessFlags := 1537
  interfaces := #[]
  cf := some (fileOf pool4 2 #[] #[] 1537 4 #[] #[])
  fields := #[]
  methods := #[]
  instanceTypes := #[]
  staticTypes := #[]
  resolved := Array.replicate 8 none
  statics := none }

def pool5 : Array CpInfo := pool [(1, u "java/io/Serializable"), (0, .class_ 1), (0, u "java/lang/Object"), (0, .class_ 3)] 3

/-- java/io/Serializable -/
def k5 : Class := { plain "java/io/Serializable" (some 0) with
  accessFlags := 1537
  interfaces := #[]
  cf := some (fileOf pool5 2 #[] #[] 1537 4 #[] #[])
  fields := #[]
  methods := #[]
  instanceTypes := #[]
  staticTypes := #[]
  resolved := Array.replicate 8 none
  statics := none }

/-- the primitive byte -/
def k6 : Class := { plain "byte" none with kind := .primitive 'B', accessFlags := 0x411 }
/-- [B -/
def k7 : Class := { plain "[B" (some 0) with kind := .array 6 .byte, interfaces := #[4, 5], accessFlags := 1041 }

/-- the primitive int -/
def k8 : Class := { plain "int" none with kind := .primitive 'I', accessFlags := 0x411 }
/-- [I -/
def k9 : Class := { plain "[I" (some 0) with kind := .array 8 .int, interfaces := #[4, 5], accessFlags := 1041 }

/-- the primitive long -/
def k10 : Class := { plain "long" none with kind := .primitive 'J', accessFlags := 0x411 }
/-- [J -/
def k11 : Class := { plain "[J" (some 0) with kind := .array 10 .long, interfaces := #[4, 5], accessFlags := 1041 }

def heap : Heap := #[]
def classes : Array Class := #[k0, k1, k2, k3, k4, k5, k6, k7, k8, k9, k10, k11]
def interned : List (Array UInt16 × Addr) := []
def slotsUsed : Nat := 0
def theMethod : MethodId := ⟨1, 4⟩
def args0 : Array Value := #[.int 1, .int 7, .long 9, .long 1, .long 2, .long 3]
def aboutOver (below : List Frame) : State where
  vm := { classes := classes, interned := interned.toArray }
  heap := heap
  slotsUsed := slotsUsed
  threads := #[{ frames := .invoking theMethod args0 :: below }]
def below0 : List Frame := [.native { method := ⟨0, 0⟩, args := #[] }]
def about1 : State := aboutOver below0
def p0 : Program := .bare "" "" ""
def e0 : Env := launch0.env 0 0 0
theorem w_frames : about1.frames = Frame.invoking theMethod args0 :: below0 := rfl
set_option maxRecDepth 65536 in
theorem w_args : argsFit about1.vm theMethod args0 = true := by decide +kernel
set_option maxRecDepth 65536 in
theorem w_heap : heapFits about1 = true := by decide +kernel
set_option maxRecDepth 65536 in
theorem w_runnable : about1.curStatus? = some .runnable := by decide +kernel
set_option maxRecDepth 65536 in
theorem w_alone : about1.alone = true := by decide +kernel
set_option maxRecDepth 65536 in
theorem w_named : about1.methodNamed? x = some theMethod := by decide +kernel
set_option maxRecDepth 65536 in
theorem w_hears : about1.hears theMethod below0 = true := by decide +kernel
set_option maxRecDepth 65536 in
theorem w_ripe : about1.ripe theMethod args0 below0 = true := by decide +kernel
theorem w_running : about1.status = .running := rfl
set_option maxRecDepth 65536 in
theorem w_room : about1.hasRoom e0.platform room_1 = true :=
  launch0.hasRoom_least _ room_1 (by decide +kernel) (by decide +kernel) (by decide +kernel) (by decide +kernel) (by decide +kernel) (by decide +kernel)
theorem allAtoms_all (ts : List Jvm.Cond) (a : Array Jvm.Value) (st : Jvm.State) : (allAtoms ts).before a st = ts.all (fun c => c.before a st) := by
  induction ts with
  | nil => rfl
  | cons c t ih =>
    show (Jvm.Cond.and c (allAtoms t)).before a st = _
    rw [Jvm.Cond.before_and, ih, List.all_cons]
def words1 : List Jvm.Cond := Jvm.Cond.code x code maxLocals ret :: tables_1
/-- a 'code' word, met by the world's own term for the bytes: nothing is compared byte by byte -/
theorem code_word {y : MethodName} {bytes : ByteArray} {mx : Nat} {rt : Option FieldType} {a : Array Value} {s : State} {m : MethodId} {meth : Method} {c : Code} (h1 : s.methodNamed? y = some m) (h2 : s.vm.method? m = some meth) (h3 : meth.code = some c) (h4 : c.code = bytes)
    (h5 : (c.maxLocals == mx && c.exceptionTable.isEmpty && decide (c.maxStack ≤ mostOperands) && decide (meth.sig.returnType = rt) && !meth.locks && decide (parseMethodDescriptor y.desc = some meth.sig)) = true) : (Jvm.Cond.code y bytes mx rt).before a s = true := by
  simp only [Bool.and_eq_true, beq_iff_eq, Bool.not_eq_true', decide_eq_true_eq] at h5
  obtain ⟨⟨⟨⟨⟨g1, g2⟩, g3⟩, g4⟩, g5⟩, g6⟩ := h5
  simp [Cond.before, Cond.holds, Cond.value, h1, h2, h3, h4, g1, g2, g3, g4, g5, g6]
def isCode : Jvm.Cond → Bool
  | .code _ _ _ _ => true
  | _ => false
theorem all_split {L : List Jvm.Cond} {P : Jvm.Cond → Bool} (h1 : L.all (fun c => isCode c || P c) = true) (h2 : ∀ c ∈ L.filter isCode, P c = true) : L.all P = true := by
  refine List.all_eq_true.mpr fun c hc => ?_
  have h := List.all_eq_true.mp h1 c hc
  rcases Bool.eq_false_or_eq_true (isCode c) with hi | hi
  · exact h2 c (List.mem_filter.mpr ⟨hc, hi⟩)
  · simpa [hi] using h
set_option maxRecDepth 65536 in
theorem w_c0 : (Jvm.Cond.code x code maxLocals ret).before args0 about1 = true := code_word (m := ⟨1, 4⟩) (meth := k1m4) (c := k1c4) (by decide +kernel) rfl rfl rfl (by decide +kernel)
set_option maxRecDepth 65536 in
theorem w_c1 : (Jvm.Cond.code ({ cls := "com/example/reshelve/reshelve/service/sort/ZCurve", name := "<init>", desc := "(II)V" } : Jvm.MethodName) prog_92_method_1_code (3 : Nat) (Option.none : Option Jvm.ClassFile.FieldType)).before args0 about1 = true := code_word (m := ⟨3, 0⟩) (meth := k3m0) (c := k3c0) (by decide +kernel) rfl rfl rfl (by decide +kernel)
set_option maxRecDepth 65536 in
theorem w_c2 : (Jvm.Cond.code ({ cls := "java/lang/Object", name := "<init>", desc := "()V" } : Jvm.MethodName) object_method_1_code (1 : Nat) (Option.none : Option Jvm.ClassFile.FieldType)).before args0 about1 = true := code_word (m := ⟨0, 0⟩) (meth := k0m0) (c := k0c0) (by decide +kernel) rfl rfl rfl (by decide +kernel)
set_option maxRecDepth 65536 in
theorem w_c3 : (Jvm.Cond.code ({ cls := "com/example/reshelve/reshelve/service/sort/ZCurve", name := "index", desc := "([J)[J" } : Jvm.MethodName) prog_92_method_3_code (14 : Nat) (Option.some (Jvm.ClassFile.FieldType.array Jvm.ClassFile.FieldType.long))).before args0 about1 = true := code_word (m := ⟨3, 1⟩) (meth := k3m1) (c := k3c1) (by decide +kernel) rfl rfl rfl (by decide +kernel)
set_option maxRecDepth 65536 in
theorem w_c4 : (Jvm.Cond.code ({ cls := "com/example/reshelve/reshelve/service/sort/ZCurveIndexPinLaw", name := "ones", desc := "(JJJI)I" } : Jvm.MethodName) method_3_code (7 : Nat) (Option.some Jvm.ClassFile.FieldType.int)).before args0 about1 = true := code_word (m := ⟨1, 2⟩) (meth := k1m2) (c := k1c2) (by decide +kernel) rfl rfl rfl (by decide +kernel)
set_option maxRecDepth 65536 in
theorem w_c5 : (Jvm.Cond.code ({ cls := "com/example/reshelve/reshelve/service/sort/ZCurveIndexPinLaw", name := "bit", desc := "(JI)I" } : Jvm.MethodName) method_2_code (3 : Nat) (Option.some Jvm.ClassFile.FieldType.int)).before args0 about1 = true := code_word (m := ⟨1, 1⟩) (meth := k1m1) (c := k1c1) (by decide +kernel) rfl rfl rfl (by decide +kernel)
set_option maxRecDepth 65536 in
theorem w_c6 : (Jvm.Cond.code ({ cls := "com/example/reshelve/reshelve/service/sort/ZCurveIndexPinLaw", name := "lvl", desc := "(JJJII)J" } : Jvm.MethodName) method_4_code (14 : Nat) (Option.some Jvm.ClassFile.FieldType.long)).before args0 about1 = true := code_word (m := ⟨1, 3⟩) (meth := k1m3) (c := k1c3) (by decide +kernel) rfl rfl rfl (by decide +kernel)
def codes1 : List Jvm.Cond := [Jvm.Cond.code x code maxLocals ret, Jvm.Cond.code ({ cls := "com/example/reshelve/reshelve/service/sort/ZCurve", name := "<init>", desc := "(II)V" } : Jvm.MethodName) prog_92_method_1_code (3 : Nat) (Option.none : Option Jvm.ClassFile.FieldType), Jvm.Cond.code ({ cls := "java/lang/Object", name := "<init>", desc := "()V" } : Jvm.MethodName) object_method_1_code (1 : Nat) (Option.none : Option Jvm.ClassFile.FieldType), Jvm.Cond.code ({ cls := "com/example/reshelve/reshelve/service/sort/ZCurve", name := "index", desc := "([J)[J" } : Jvm.MethodName) prog_92_method_3_code (14 : Nat) (Option.some (Jvm.ClassFile.FieldType.array Jvm.ClassFile.FieldType.long)), Jvm.Cond.code ({ cls := "com/example/reshelve/reshelve/service/sort/ZCurveIndexPinLaw", name := "ones", desc := "(JJJI)I" } : Jvm.MethodName) method_3_code (7 : Nat) (Option.some Jvm.ClassFile.FieldType.int), Jvm.Cond.code ({ cls := "com/example/reshelve/reshelve/service/sort/ZCurveIndexPinLaw", name := "bit", desc := "(JI)I" } : Jvm.MethodName) method_2_code (3 : Nat) (Option.some Jvm.ClassFile.FieldType.int), Jvm.Cond.code ({ cls := "com/example/reshelve/reshelve/service/sort/ZCurveIndexPinLaw", name := "lvl", desc := "(JJJII)J" } : Jvm.MethodName) method_4_code (14 : Nat) (Option.some Jvm.ClassFile.FieldType.long)]
set_option maxRecDepth 65536 in
theorem codes_eq : words1.filter isCode = codes1 := rfl
theorem w_codes : ∀ c ∈ words1.filter isCode, c.before args0 about1 = true := by
  rw [codes_eq]
  intro c hc
  simp only [codes1, List.mem_cons, List.not_mem_nil, or_false] at hc
  rcases hc with rfl | rfl | rfl | rfl | rfl | rfl | rfl
  · exact w_c0
  · exact w_c1
  · exact w_c2
  · exact w_c3
  · exact w_c4
  · exact w_c5
  · exact w_c6
set_option maxRecDepth 65536 in
theorem w_t1 : (words1.take 24).all (fun c => isCode c || c.before args0 about1) = true := by decide +kernel
set_option maxRecDepth 65536 in
theorem w_t2 : (words1.drop 24).all (fun c => isCode c || c.before args0 about1) = true := by decide +kernel
theorem w_tables : (allAtoms (Jvm.Cond.code x code maxLocals ret :: tables_1)).before args0 about1 = true := by
  rw [allAtoms_all]
  show words1.all (fun c => c.before args0 about1) = true
  refine all_split ?_ w_codes
  rw [← List.take_append_drop 24 words1, List.all_append, w_t1, w_t2]
  rfl
set_option maxRecDepth 65536 in
theorem w_case : (Jvm.Cond.and given_1 narrow_1).before args0 about1 = true := by decide +kernel
theorem w_applies : (headSpec (Jvm.Cond.code x code maxLocals ret :: tables_1) room_1).applies x e0.platform about1 = true :=
  (Spec.applies_iff w_frames).mpr ⟨w_running, w_runnable, w_alone, w_named, w_hears, w_ripe, w_room, w_tables⟩
theorem atStart : AtStart classFile x code maxLocals ret World_1 tables_1 room_1 Calls_1 rest_1 Pre_1 launch0 p0 e0 about1 theMethod args0 below0 :=
  ⟨lists_1, trivial, launch0.admits_env _ _ _, launch0.least_env, fairChoices_fair.cas, fairChoices_fair.clock, w_frames, w_args, w_heap, w_applies, trivial, trivial, w_case⟩
end start1
theorem witness_1 : WitnessClaimed_1 := ⟨start1.p0, start1.e0, start1.about1, start1.theMethod, start1.args0, start1.below0, start1.atStart⟩
end Jvm.Pilot.@@N@@
