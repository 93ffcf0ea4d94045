import JvmDerived
import JvmDerived.Pilot.@@N@@Statement
import JvmDerived.Pilot.@@N@@Code
set_option linter.unusedVariables false
set_option linter.unusedSimpArgs false
namespace Jvm.OwnW
open Sem ClassFile Op Lib Jvm.Stand Jvm.Free Jvm.LawKit Jvm.RoadKit
/-! A plain heap (objects made since the start, in order), values whose references count from the start's size; W: from here the method comes back, and Q holds of what it returns and leaves. -/
abbrev Key : Type := String × String × String
abbrev AObj : Type := (String × List (Key × Value)) ⊕ (FieldType × List Value)
abbrev AHeap : Type := List AObj
abbrev Meth : Type := MethodName × ByteArray × Nat × Option FieldType × Room
def up (n : Nat) : Value → Value
  | .ref k => .ref (n + k)
  | .retAddr a => .ref a
  | v => v
/-- a reference: null, an object of the plain heap, or one from elsewhere (written '.retAddr', which no method here makes) -/
def rfn : Value → Bool
  | .ref _ => true
  | .null => true
  | .retAddr _ => true
  | _ => false
def upS (n : Nat) : Slot → Slot
  | .val v => .val (up n v)
  | x => x
abbrev loc (n : Nat) (ls : List Slot) : Array Slot := (ls.map (upS n)).toArray
abbrev stk (n : Nat) (st : List Value) : List Value := st.map (up n)
def OR (Z : State) (n : Nat) (h : Heap) (a : Addr) : AObj → Prop
  | .inl x => Exa Z h a x.1 ∧ (∀ (i : Nat) (q : Key × Value), x.2[i]? = some q → Fld Z h a q.1.1 q.1.2.1 q.1.2.2 (up n q.2)) ∧ ∀ (i j : Nat) (q r : Key × Value), i ≠ j → x.2[i]? = some q → x.2[j]? = some r → RoadKit.slotOf Z q.1.1 q.1.2.1 q.1.2.2 ≠ RoadKit.slotOf Z r.1.1 r.1.2.1 r.1.2.2
  | .inr x => ∃ cl : Cell, Arr Z h a cl x.1 ∧ cl.slots = (x.2.map (up n)).toArray
/-- a cell of which nothing is said -/
def junk : AObj := .inr (.object "", [])
def isJ : AObj → Bool
  | .inl _ => false
  | .inr x => match x.1 with
    | .object c => c == ""
    | _ => false
def HR (Z : State) (n : Nat) (h : Heap) (H : AHeap) : Prop := h.size = n + H.length ∧ ∀ k o, H[k]? = some o → isJ o = false → OR Z n h (n + k) o
def Ctx (Z : State) (M : Meth) (p : Program) (s : State) (m : MethodId) (meth : Method) (c : Code) : Prop :=
  p.tables.exec = Jvm.exec ∧ Z.Warmed39 s.vm ∧ s.vm.findClass M.1.cls = some m.cls ∧ c.code = M.2.1 ∧ c.maxLocals = M.2.2.1 ∧ meth.sig.returnType = M.2.2.2.1 ∧ meth.locks = false ∧ meth.name = M.1.name
/-- the end's frame: the plain one, or (a String's constant may have been resolved) the wide one -/
def EndR (b : Bool) (s : State) (o : Outcome) (t : State) (L : List Loc) (k n : Nat) : Prop := match b with
  | false => FrameEnd s o t L k n
  | true => (∃ v : Option Value, o = Outcome.returned v) ∧ s.Warmed39 t.vm ∧ s.Booked t.vm t.heap.size ∧ s.sameButNew ({ t with vm := s.vm } : State) L k n
theorem EndR.of {b : Bool} {s : State} {o : Outcome} {t : State} {L : List Loc} {k n : Nat} (h : FrameEnd s o t L k n) : EndR b s o t L k n := by
  cases b
  · exact h
  · exact ⟨h.1, (h.2.1.since t.heap.size).1, (h.2.1.since t.heap.size).2, h.2.2⟩
def FinR (b : Bool) (Z : State) (n : Nat) (M : Meth) (Q : Option Value → AHeap → Prop) (p : Program) (e : Env) (below : List Frame) (s S : State) : Prop :=
  ∃ s₂ v L H', Steps p.tables e below S s₂ ∧ s₂.status = .running ∧ Ended s₂ below (.returned (v.map (up n))) ∧ Q v H' ∧ HR Z n s₂.heap H' ∧ Fr n L ∧ EndR b s (.returned (v.map (up n))) s₂ L M.2.2.2.2.cells M.2.2.2.2.slots
def WB (b : Bool) (l : Launch) (Z : State) (n : Nat) (M : Meth) (pc : Nat) (ls : List Slot) (st : List Value) (H : AHeap) (ce sl : Nat) (Q : Option Value → AHeap → Prop) : Prop :=
  ∀ (p : Program) (e : Env) (s : State) (m : MethodId) (args : Array Value) (below : List Frame) (meth : Method) (c : Code), Ctx Z M p s m meth c → ∀ (T : State) (locs : List Loc),
    Stand p l e M.2.2.2.2 s m args below meth c T locs ce sl → HR Z n T.heap H → Fr n locs → FinR b Z n M Q p e below s (T.setTop (mkF m pc (loc n ls) (stk n st)))
abbrev W (l : Launch) (Z : State) (n : Nat) (M : Meth) (pc : Nat) (ls : List Slot) (st : List Value) (H : AHeap) (ce sl : Nat) (Q : Option Value → AHeap → Prop) : Prop := WB false l Z n M pc ls st H ce sl Q
/-- the instruction at pc, its length, the pc behind -/
def D (M : Meth) (pc : Nat) (i : Instr) (len pc' : Nat) : Prop := decode M.2.1 pc = .ok (i, len) ∧ pc' = pc + len
/-- a branch: the pc behind, the target -/
def DB (M : Meth) (pc : Nat) (i : Instr) (o : Int) (pc' t : Nat) : Prop := decode M.2.1 pc = .ok (i, 3) ∧ pc' = pc + 3 ∧ 0 ≤ (pc : Int) + o ∧ ((pc : Int) + o).toNat = t

section Facts
variable {Z : State} {n : Nat} {h h' : Heap} {a b : Addr} {x : AObj} {H : AHeap} {sl k : Nat} {v : Value}
theorem up_cat (n : Nat) (v : Value) : (up n v).category = v.category := by cases v <;> rfl
theorem up_rfn (n : Nat) {v : Value} (h : rfn v = true) : (up n v).isRef = true := by cases v <;> first | rfl | (simp [rfn] at h)
theorem up_isRef (n : Nat) {v : Value} (h : v.isRef = true) : (up n v).isRef = true := by cases v <;> first | rfl | (simp [Value.isRef] at h)
theorem rfn_cat {v : Value} (h : rfn v = true) : v.category = 1 := by cases v <;> first | rfl | (simp [rfn] at h)
theorem up_default (n : Nat) (ty : FieldType) : up n (defaultValue ty) = defaultValue ty := by cases ty <;> rfl
theorem up_inj {n : Nat} {v w : Value} (hv : v.isRef = true) (hw : w.isRef = true) (e : up n v = up n w) : v = w := by
  cases v <;> cases w <;> simp_all [up, Value.isRef]
theorem OR.other (W : Wr h h' a sl v) (hne : b ≠ a) : ∀ {x : AObj}, OR Z n h b x → OR Z n h' b x
  | .inl x, o => ⟨o.1.wr W, fun i q hq => (o.2.1 i q hq).other W (Or.inl hne), o.2.2⟩
  | .inr x, ⟨cl, A, e⟩ => ⟨cl, A.other W hne, e⟩
theorem OR.ext (E : Ext h h') : ∀ {x : AObj}, OR Z n h b x → OR Z n h' b x
  | .inl x, o => ⟨o.1.ext E, fun i q hq => (o.2.1 i q hq).ext E, o.2.2⟩
  | .inr x, ⟨cl, A, e⟩ => ⟨cl, A.ext E, e⟩
theorem HR.put (hH : HR Z n h H) (W : Wr h h' (n + k) sl v) (hx : OR Z n h' (n + k) x) : HR Z n h' (H.set k x) := by
  refine ⟨by rw [W.size, List.length_set]; exact hH.1, fun j o hj hJ => ?_⟩
  rw [List.getElem?_set] at hj
  split at hj
  · rename_i e
    subst e
    split at hj
    · cases hj; exact hx
    · cases hj
  · rename_i e
    exact (hH.2 j o hj hJ).other W (fun q => e (Nat.add_left_cancel q).symm)
theorem HR.push (hH : HR Z n h H) (E : Ext h h') (hs : h'.size = h.size + 1) (hx : OR Z n h' h.size x) : HR Z n h' (H ++ [x]) := by
  refine ⟨by rw [hs, hH.1, List.length_append]; rfl, fun j o hj hJ => ?_⟩
  rw [List.getElem?_append] at hj
  split at hj
  · exact (hH.2 j o hj hJ).ext E
  · rename_i e
    have hj' := hj
    cases hq : j - H.length with
    | zero =>
      have hge : H.length ≤ j := Nat.le_of_not_lt e
      have hle : j ≤ H.length := Nat.sub_eq_zero_iff_le.mp hq
      have this : n + j = h.size := by rw [hH.1, Nat.le_antisymm hle hge]
      rw [hq] at hj
      cases hj
      rw [this]; exact hx
    | succ q => rw [hq] at hj; cases hj
theorem OR.field {C : String} {fs : List (Key × Value)} {j : Nat} {O nm d : String} {old w : Value} (o : OR Z n h a (.inl (C, fs))) (hj : fs[j]? = some ((O, nm, d), old)) (W : Wr h h' a (RoadKit.slotOf Z O nm d) (up n w)) : OR Z n h' a (.inl (C, fs.set j ((O, nm, d), w))) := by
  have key : ∀ i q, (fs.set j ((O, nm, d), w))[i]? = some q → ∃ q', fs[i]? = some q' ∧ q'.1 = q.1 ∧ (i = j → q = ((O, nm, d), w)) ∧ (i ≠ j → q' = q) := by
    intro i q hq
    rw [List.getElem?_set] at hq
    split at hq
    · rename_i e
      subst e
      split at hq
      · cases hq; exact ⟨_, hj, rfl, fun _ => rfl, fun q => absurd rfl q⟩
      · cases hq
    · rename_i e
      exact ⟨q, hq, rfl, fun q => absurd q.symm e, fun _ => rfl⟩
  obtain ⟨o1, o2, o3⟩ := o
  refine ⟨o1.wr W, fun i q hq => ?_, fun i i' q r hne hq hr => ?_⟩
  · obtain ⟨q', g1, g2, g3, g4⟩ := key i q hq
    by_cases e : i = j
    · rw [g3 e]
      subst e
      cases hj.symm.trans g1
      have o4 : Fld Z h a O nm d (up n old) := o2 i _ hj
      exact o4.same W
    · obtain rfl := g4 e
      have hne : RoadKit.slotOf Z q'.1.1 q'.1.2.1 q'.1.2.2 ≠ RoadKit.slotOf Z O nm d := o3 i j q' ((O, nm, d), old) e g1 hj
      exact (o2 i q' g1).other W (Or.inr hne)
  · obtain ⟨q', g1, g2, -⟩ := key i q hq
    obtain ⟨r', k1, k2, -⟩ := key i' r hr
    have := o3 i i' q' r' hne g1 k1
    rw [g2, k2] at this; exact this
theorem OR.elem {ty : FieldType} {vs : List Value} {i : Nat} {w : Value} (o : OR Z n h a (.inr (ty, vs))) (W : Wr h h' a i (up n w)) : OR Z n h' a (.inr (ty, vs.set i w)) := by
  obtain ⟨cl, A, e⟩ := o
  refine ⟨_, A.same W, ?_⟩
  show cl.slots.setIfInBounds i (up n w) = _
  rw [e, List.setIfInBounds_toArray, List.map_set]
end Facts

/-- a class as the sheet lays it: its words, its fields at their first values -/
def OkC (a0 : Array Value) (Z : State) (C : String) (k : Nat) (fs : List (Key × Value)) : Prop :=
  (Cond.instantiable C k).before a0 Z = true ∧ (Cond.initialized C).before a0 Z = true ∧ (∀ q ∈ fs, ∃ ty, Laid Z a0 C q.1.1 q.1.2.1 q.1.2.2 ∧ parseFieldDescriptor q.1.2.2 = some ty ∧ q.2 = defaultValue ty) ∧ fs.Pairwise (fun q r => q.1.2.1 ≠ r.1.2.1)
theorem OkC.slots {a0 : Array Value} {Z : State} {C : String} {k : Nat} {fs : List (Key × Value)} (K : OkC a0 Z C k fs) : ∀ (i j : Nat) (q r : Key × Value), i ≠ j → fs[i]? = some q → fs[j]? = some r → RoadKit.slotOf Z q.1.1 q.1.2.1 q.1.2.2 ≠ RoadKit.slotOf Z r.1.1 r.1.2.1 r.1.2.2 := by
  intro i j q r hne hq hr
  obtain ⟨t, L, p1, -⟩ := K.2.2.1 q (List.mem_of_getElem? hq)
  obtain ⟨t', L', p2, -⟩ := K.2.2.1 r (List.mem_of_getElem? hr)
  obtain ⟨hi, ei⟩ := List.getElem?_eq_some_iff.mp hq
  obtain ⟨hj, ej⟩ := List.getElem?_eq_some_iff.mp hr
  have P := List.pairwise_iff_getElem.mp K.2.2.2
  refine slot_ne L L' ?_ p1 p2
  rcases Nat.lt_or_gt_of_ne hne with g | g
  · have := P i j hi hj g; rw [ei, ej] at this; exact this
  · have := P j i hj hi g; rw [ei, ej] at this; exact Ne.symm this

section Locals
variable {n : Nat} {ls : List Slot} {i : Nat} {x : Slot} {v : Value}
theorem loc_get (hl : ls[i]? = some x) : (loc n ls)[i]? = some (upS n x) := by
  simp [loc, hl]
def one (ls : List Slot) (i : Nat) : Bool := match ls[i]? with
  | some .unset => true
  | some (.val w) => w.category == 1
  | _ => false
/-- a long may be stored at i: the two places are there, and no other long is cut in two -/
def two (ls : List Slot) (i : Nat) : Bool := match ls[i]?, ls[i + 1]? with
  | some .unset, some .unset => true
  | some .unset, some (.val w) => w.category == 1
  | some (.val u), some .unset => u.category == 1
  | some (.val u), some (.val w) => u.category == 1 && w.category == 1
  | some (.val u), some .second => u.category == 2
  | _, _ => false
theorem loc_set (n : Nat) (ls : List Slot) (i : Nat) (x : Slot) : (loc n ls).setIfInBounds i (upS n x) = loc n (ls.set i x) := by
  simp [loc, List.map_set]
theorem store_1 (ho : one ls i = true) (hv : v.category = 1) : storeLocals (loc n ls) i (up n v) = some (loc n (ls.set i (.val v))) := by
  have : ∃ o, ls[i]? = some o ∧ (o = .unset ∨ ∃ w, o = .val w ∧ w.category = 1) := by
    unfold one at ho
    split at ho
    · rename_i h; exact ⟨_, h, Or.inl rfl⟩
    · rename_i w h; exact ⟨_, h, Or.inr ⟨w, rfl, by simpa using ho⟩⟩
    · cases ho
  obtain ⟨o, h1, h2⟩ := this
  rw [XS.store1 (loc_get (n := n) h1) ?_ ((up_cat n v).trans hv)]
  · exact congrArg some (loc_set n ls i (.val v))
  · rcases h2 with rfl | ⟨w, rfl, hw⟩
    · exact Or.inl rfl
    · exact Or.inr ⟨up n w, rfl, (up_cat n w).trans hw⟩
theorem setAt_eq {l : Array Slot} {i : Nat} (x : Slot) (h : i < l.size) : setAt l i x = some (l.setIfInBounds i x) := by simp [setAt, h]
theorem store_2 {y : Int64} (ho : two ls i = true) : storeLocals (loc n ls) i (.long y) = some (loc n ((ls.set i (.val (.long y))).set (i + 1) .second)) := by
  have e2 : (loc n ls).setIfInBounds i (.val (.long y)) = loc n (ls.set i (.val (.long y))) := loc_set n ls i (.val (.long y))
  have e3 : (loc n (ls.set i (.val (.long y)))).setIfInBounds (i + 1) .second = loc n ((ls.set i (.val (.long y))).set (i + 1) .second) := loc_set n _ (i + 1) .second
  have key : ∀ a b, ls[i]? = some a → ls[i + 1]? = some b → i < (loc n ls).size ∧ i + 1 < (loc n ls).size ∧ (loc n ls)[i]? = some (upS n a) ∧ (loc n ls)[i + 1]? = some (upS n b) := by
    intro a b h1 h2
    have g1 := (List.getElem?_eq_some_iff.mp h1).1
    have g2 := (List.getElem?_eq_some_iff.mp h2).1
    exact ⟨by simpa [loc] using g1, by simpa [loc] using g2, loc_get h1, loc_get h2⟩
  unfold two at ho
  split at ho
  · rename_i h1 h2
    obtain ⟨s1, s2, g1, g2⟩ := key _ _ h1 h2
    have g3 : ((loc n ls).setIfInBounds i (.val (.long y)))[i + 1]? = some .unset := by rw [Array.getElem?_setIfInBounds_ne (by omega)]; exact g2
    simp only [storeLocals, storeSelf, g1, upS, setAt_eq _ s1, Option.bind_eq_bind, Option.bind_some, Value.category, if_true, g3]
    rw [setAt_eq _ (by simpa using s2), e2, e3]
  · rename_i w h1 h2
    obtain ⟨s1, s2, g1, g2⟩ := key _ _ h1 h2
    have g3 : ((loc n ls).setIfInBounds i (.val (.long y)))[i + 1]? = some (.val (up n w)) := by rw [Array.getElem?_setIfInBounds_ne (by omega)]; exact g2
    have hw : (up n w).category = 1 := (up_cat n w).trans (by simpa using ho)
    have hw2 : ¬ (up n w).category = 2 := by rw [hw]; decide
    simp only [storeLocals, storeSelf, g1, upS, setAt_eq _ s1, Option.bind_eq_bind, Option.bind_some, show (Value.long y).category = 2 from rfl, if_true, g3, if_neg hw2]
    rw [setAt_eq _ (by simpa using s2), e2, e3]
  · rename_i u h1 h2
    obtain ⟨s1, s2, g1, g2⟩ := key _ _ h1 h2
    have g3 : ((loc n ls).setIfInBounds i (.val (.long y)))[i + 1]? = some .unset := by rw [Array.getElem?_setIfInBounds_ne (by omega)]; exact g2
    have hu : (up n u).category = 1 := (up_cat n u).trans (by simpa using ho)
    simp only [storeLocals, storeSelf, g1, upS, setAt_eq _ s1, Option.bind_eq_bind, Option.bind_some, hu, show ((1 : Nat) = 2) = False from by simp, if_false, g3]
    simp only [Value.category, if_true]
    rw [setAt_eq _ (by simpa using s2), e2, e3]
  · rename_i u w h1 h2
    obtain ⟨s1, s2, g1, g2⟩ := key _ _ h1 h2
    simp only [Bool.and_eq_true, beq_iff_eq] at ho
    have g3 : ((loc n ls).setIfInBounds i (.val (.long y)))[i + 1]? = some (.val (up n w)) := by rw [Array.getElem?_setIfInBounds_ne (by omega)]; exact g2
    have hu : (up n u).category = 1 := (up_cat n u).trans ho.1
    have hw : (up n w).category = 1 := (up_cat n w).trans ho.2
    simp only [storeLocals, storeSelf, g1, upS, setAt_eq _ s1, Option.bind_eq_bind, Option.bind_some, hu, hw, show ((1 : Nat) = 2) = False from by simp, if_false, g3]
    simp only [Value.category, if_true]
    rw [setAt_eq _ (by simpa using s2), e2, e3]
  · rename_i u h1 h2
    obtain ⟨s1, s2, g1, g2⟩ := key _ _ h1 h2
    have hu : (up n u).category = 2 := (up_cat n u).trans (by simpa using ho)
    have s3 : i < ((loc n ls).setIfInBounds (i + 1) .unset).size := by simpa using s1
    have g3 : (((loc n ls).setIfInBounds (i + 1) .unset).setIfInBounds i (.val (.long y)))[i + 1]? = some .unset := by rw [Array.getElem?_setIfInBounds_ne (by omega)]; simp [show i + 1 < ls.length by simpa [loc] using s2]
    simp only [storeLocals, storeSelf, g1, upS, setAt_eq _ s2, setAt_eq _ s3, Option.bind_eq_bind, Option.bind_some, hu, if_true, g3]
    simp only [Value.category, if_true]
    rw [setAt_eq _ (by simpa using s2)]
    rw [← e3, ← e2]
    congr 1
    apply Array.ext_getElem?
    intro j
    simp only [Array.getElem?_setIfInBounds, Array.size_setIfInBounds]
    by_cases q : i + 1 = j
    · simp [q]
    · by_cases q2 : i = j <;> simp [q, q2]
  · cases ho
end Locals

section Rules
variable {b : Bool} {l : Launch} {Z : State} {n : Nat} {M : Meth} {pc pc' : Nat} {ls ls' : List Slot} {st st' : List Value} {H H' : AHeap} {ce sl ce' sl' : Nat} {Q : Option Value → AHeap → Prop} {a0 : Array Value}
theorem W.step (go : ∀ (p : Program) (e : Env) (s : State) (m : MethodId) (args : Array Value) (below : List Frame) (meth : Method) (c : Code), Ctx Z M p s m meth c → ∀ (T : State) (locs : List Loc), Stand p l e M.2.2.2.2 s m args below meth c T locs ce sl → HR Z n T.heap H → Fr n locs →
      ∃ T' locs', Stand p l e M.2.2.2.2 s m args below meth c T' locs' ce' sl' ∧ HR Z n T'.heap H' ∧ Fr n locs' ∧ ∀ target, Steps p.tables e below (T'.setTop (mkF m pc' (loc n ls') (stk n st'))) target → Steps p.tables e below (T.setTop (mkF m pc (loc n ls) (stk n st))) target)
    (k : WB b l Z n M pc' ls' st' H' ce' sl' Q) : WB b l Z n M pc ls st H ce sl Q := fun p e s m args below meth c C T locs X hH hF => by
  obtain ⟨T', locs', X', hH', hF', stp⟩ := go p e s m args below meth c C T locs X hH hF
  obtain ⟨s₂, v, L, H'', h1, r⟩ := k p e s m args below meth c C T' locs' X' hH' hF'
  exact ⟨s₂, v, L, H'', stp _ h1, r⟩
theorem W.pure (go : ∀ (p : Program) (e : Env) (s : State) (m : MethodId) (args : Array Value) (below : List Frame) (meth : Method) (c : Code), Ctx Z M p s m meth c → ∀ (T : State) (locs : List Loc), Stand p l e M.2.2.2.2 s m args below meth c T locs ce sl →
      ∀ target, Steps p.tables e below (T.setTop (mkF m pc' (loc n ls') (stk n st'))) target → Steps p.tables e below (T.setTop (mkF m pc (loc n ls) (stk n st))) target)
    (k : WB b l Z n M pc' ls' st' H ce sl Q) : WB b l Z n M pc ls st H ce sl Q :=
  W.step (fun p e s m args below meth c C T locs X hH hF => ⟨T, locs, X, hH, hF, go p e s m args below meth c C T locs X⟩) k
theorem W.more (h1 : ce ≤ ce') (h2 : sl ≤ sl') (k : WB b l Z n M pc ls st H ce' sl' Q) : WB b l Z n M pc ls st H ce sl Q :=
  W.step (fun p e s m args below meth c C T locs X hH hF => ⟨T, locs, X.more h1 h2, hH, hF, fun _ h => h⟩) k
theorem W.mono {Q' : Option Value → AHeap → Prop} (k : WB b l Z n M pc ls st H ce sl Q') (hq : ∀ v H', Q' v H' → Q v H') : WB b l Z n M pc ls st H ce sl Q := fun p e s m args below meth c C T locs X hH hF => by
  obtain ⟨s₂, v, L, H'', h1, h2, h3, h4, r⟩ := k p e s m args below meth c C T locs X hH hF
  exact ⟨s₂, v, L, H'', h1, h2, h3, hq _ _ h4, r⟩
theorem W.iadd {x y : Int32} (hd : D M pc .iadd 1 pc') (k : WB b l Z n M pc' ls (.int (x + y) :: st) H ce sl Q) : WB b l Z n M pc ls (.int y :: .int x :: st) H ce sl Q := by
  obtain ⟨hd, rfl⟩ := hd
  exact W.pure (fun p e s m args below meth c C T locs X target h => XS.iadd X.here C.1 rfl (hb C.2.2.2.1 hd) rfl h) k
theorem W.isub {x y : Int32} (hd : D M pc .isub 1 pc') (k : WB b l Z n M pc' ls (.int (x - y) :: st) H ce sl Q) : WB b l Z n M pc ls (.int y :: .int x :: st) H ce sl Q := by
  obtain ⟨hd, rfl⟩ := hd
  exact W.pure (fun p e s m args below meth c C T locs X target h => XS.isub X.here C.1 rfl (hb C.2.2.2.1 hd) rfl h) k
theorem W.imul {x y : Int32} (hd : D M pc .imul 1 pc') (k : WB b l Z n M pc' ls (.int (x * y) :: st) H ce sl Q) : WB b l Z n M pc ls (.int y :: .int x :: st) H ce sl Q := by
  obtain ⟨hd, rfl⟩ := hd
  exact W.pure (fun p e s m args below meth c C T locs X target h => XS.imul X.here C.1 rfl (hb C.2.2.2.1 hd) rfl h) k
theorem W.iand {x y : Int32} (hd : D M pc .iand 1 pc') (k : WB b l Z n M pc' ls (.int (x &&& y) :: st) H ce sl Q) : WB b l Z n M pc ls (.int y :: .int x :: st) H ce sl Q := by
  obtain ⟨hd, rfl⟩ := hd
  exact W.pure (fun p e s m args below meth c C T locs X target h => XS.iand X.here C.1 rfl (hb C.2.2.2.1 hd) rfl h) k
theorem W.ior {x y : Int32} (hd : D M pc .ior 1 pc') (k : WB b l Z n M pc' ls (.int (x ||| y) :: st) H ce sl Q) : WB b l Z n M pc ls (.int y :: .int x :: st) H ce sl Q := by
  obtain ⟨hd, rfl⟩ := hd
  exact W.pure (fun p e s m args below meth c C T locs X target h => XT.ior X.here C.1 rfl (hb C.2.2.2.1 hd) rfl h) k
theorem W.ixor {x y : Int32} (hd : D M pc .ixor 1 pc') (k : WB b l Z n M pc' ls (.int (x ^^^ y) :: st) H ce sl Q) : WB b l Z n M pc ls (.int y :: .int x :: st) H ce sl Q := by
  obtain ⟨hd, rfl⟩ := hd
  exact W.pure (fun p e s m args below meth c C T locs X target h => XT.ixor X.here C.1 rfl (hb C.2.2.2.1 hd) rfl h) k
theorem W.ishl {x y : Int32} (hd : D M pc .ishl 1 pc') (k : WB b l Z n M pc' ls (.int (x <<< (y &&& 31)) :: st) H ce sl Q) : WB b l Z n M pc ls (.int y :: .int x :: st) H ce sl Q := by
  obtain ⟨hd, rfl⟩ := hd
  exact W.pure (fun p e s m args below meth c C T locs X target h => XT.ishl X.here C.1 rfl (hb C.2.2.2.1 hd) rfl h) k
theorem W.ishr {x y : Int32} (hd : D M pc .ishr 1 pc') (k : WB b l Z n M pc' ls (.int (x >>> (y &&& 31)) :: st) H ce sl Q) : WB b l Z n M pc ls (.int y :: .int x :: st) H ce sl Q := by
  obtain ⟨hd, rfl⟩ := hd
  exact W.pure (fun p e s m args below meth c C T locs X target h => XT.ishr X.here C.1 rfl (hb C.2.2.2.1 hd) rfl h) k
theorem W.iushr {x y : Int32} (hd : D M pc .iushr 1 pc') (k : WB b l Z n M pc' ls (.int (XT.ushr x y) :: st) H ce sl Q) : WB b l Z n M pc ls (.int y :: .int x :: st) H ce sl Q := by
  obtain ⟨hd, rfl⟩ := hd
  exact W.pure (fun p e s m args below meth c C T locs X target h => XT.iushr X.here C.1 rfl (hb C.2.2.2.1 hd) rfl h) k
theorem W.ladd {x y : Int64} (hd : D M pc .ladd 1 pc') (k : WB b l Z n M pc' ls (.long (x + y) :: st) H ce sl Q) : WB b l Z n M pc ls (.long y :: .long x :: st) H ce sl Q := by
  obtain ⟨hd, rfl⟩ := hd
  exact W.pure (fun p e s m args below meth c C T locs X target h => XT.ladd X.here C.1 rfl (hb C.2.2.2.1 hd) rfl h) k
theorem W.lsub {x y : Int64} (hd : D M pc .lsub 1 pc') (k : WB b l Z n M pc' ls (.long (x - y) :: st) H ce sl Q) : WB b l Z n M pc ls (.long y :: .long x :: st) H ce sl Q := by
  obtain ⟨hd, rfl⟩ := hd
  exact W.pure (fun p e s m args below meth c C T locs X target h => XT.lsub X.here C.1 rfl (hb C.2.2.2.1 hd) rfl h) k
theorem W.lmul {x y : Int64} (hd : D M pc .lmul 1 pc') (k : WB b l Z n M pc' ls (.long (x * y) :: st) H ce sl Q) : WB b l Z n M pc ls (.long y :: .long x :: st) H ce sl Q := by
  obtain ⟨hd, rfl⟩ := hd
  exact W.pure (fun p e s m args below meth c C T locs X target h => XT.lmul X.here C.1 rfl (hb C.2.2.2.1 hd) rfl h) k
theorem W.land {x y : Int64} (hd : D M pc .land 1 pc') (k : WB b l Z n M pc' ls (.long (x &&& y) :: st) H ce sl Q) : WB b l Z n M pc ls (.long y :: .long x :: st) H ce sl Q := by
  obtain ⟨hd, rfl⟩ := hd
  exact W.pure (fun p e s m args below meth c C T locs X target h => XT.land X.here C.1 rfl (hb C.2.2.2.1 hd) rfl h) k
theorem W.lor {x y : Int64} (hd : D M pc .lor 1 pc') (k : WB b l Z n M pc' ls (.long (x ||| y) :: st) H ce sl Q) : WB b l Z n M pc ls (.long y :: .long x :: st) H ce sl Q := by
  obtain ⟨hd, rfl⟩ := hd
  exact W.pure (fun p e s m args below meth c C T locs X target h => XT.lor X.here C.1 rfl (hb C.2.2.2.1 hd) rfl h) k
theorem W.lxor {x y : Int64} (hd : D M pc .lxor 1 pc') (k : WB b l Z n M pc' ls (.long (x ^^^ y) :: st) H ce sl Q) : WB b l Z n M pc ls (.long y :: .long x :: st) H ce sl Q := by
  obtain ⟨hd, rfl⟩ := hd
  exact W.pure (fun p e s m args below meth c C T locs X target h => XT.lxor X.here C.1 rfl (hb C.2.2.2.1 hd) rfl h) k
theorem W.lshl {x : Int64} {y : Int32} (hd : D M pc .lshl 1 pc') (k : WB b l Z n M pc' ls (.long (x <<< (y &&& 0x3f).toInt64) :: st) H ce sl Q) : WB b l Z n M pc ls (.int y :: .long x :: st) H ce sl Q := by
  obtain ⟨hd, rfl⟩ := hd
  exact W.pure (fun p e s m args below meth c C T locs X target h => XS.lshl X.here C.1 rfl (hb C.2.2.2.1 hd) rfl h) k
theorem W.lshr {x : Int64} {y : Int32} (hd : D M pc .lshr 1 pc') (k : WB b l Z n M pc' ls (.long (x >>> (y &&& 0x3f).toInt64) :: st) H ce sl Q) : WB b l Z n M pc ls (.int y :: .long x :: st) H ce sl Q := by
  obtain ⟨hd, rfl⟩ := hd
  exact W.pure (fun p e s m args below meth c C T locs X target h => XS.lshr X.here C.1 rfl (hb C.2.2.2.1 hd) rfl h) k
theorem W.lushr {x : Int64} {y : Int32} (hd : D M pc .lushr 1 pc') (k : WB b l Z n M pc' ls (.long (XT.ushrL x y) :: st) H ce sl Q) : WB b l Z n M pc ls (.int y :: .long x :: st) H ce sl Q := by
  obtain ⟨hd, rfl⟩ := hd
  exact W.pure (fun p e s m args below meth c C T locs X target h => XT.lushr X.here C.1 rfl (hb C.2.2.2.1 hd) rfl h) k
theorem W.idiv {x y : Int32} (hd : D M pc .idiv 1 pc') (hy : y ≠ 0) (k : WB b l Z n M pc' ls (.int (x / y) :: st) H ce sl Q) : WB b l Z n M pc ls (.int y :: .int x :: st) H ce sl Q := by
  obtain ⟨hd, rfl⟩ := hd
  exact W.pure (fun p e s m args below meth c C T locs X target h => XS.idiv X.here C.1 rfl (hb C.2.2.2.1 hd) rfl hy h) k
theorem W.irem {x y : Int32} (hd : D M pc .irem 1 pc') (hy : y ≠ 0) (k : WB b l Z n M pc' ls (.int (x % y) :: st) H ce sl Q) : WB b l Z n M pc ls (.int y :: .int x :: st) H ce sl Q := by
  obtain ⟨hd, rfl⟩ := hd
  exact W.pure (fun p e s m args below meth c C T locs X target h => iremM X C.1 rfl (hb C.2.2.2.1 hd) rfl hy h) k
theorem W.ldiv {x y : Int64} (hd : D M pc .ldiv 1 pc') (hy : y ≠ 0) (k : WB b l Z n M pc' ls (.long (x / y) :: st) H ce sl Q) : WB b l Z n M pc ls (.long y :: .long x :: st) H ce sl Q := by
  obtain ⟨hd, rfl⟩ := hd
  exact W.pure (fun p e s m args below meth c C T locs X target h => XT.ldiv X.here C.1 rfl (hb C.2.2.2.1 hd) rfl hy h) k
theorem W.lrem {x y : Int64} (hd : D M pc .lrem 1 pc') (hy : y ≠ 0) (k : WB b l Z n M pc' ls (.long (x % y) :: st) H ce sl Q) : WB b l Z n M pc ls (.long y :: .long x :: st) H ce sl Q := by
  obtain ⟨hd, rfl⟩ := hd
  exact W.pure (fun p e s m args below meth c C T locs X target h => XT.lrem X.here C.1 rfl (hb C.2.2.2.1 hd) rfl hy (by rw [lrem_mod]; exact h)) k
theorem W.ineg {x : Int32} (hd : D M pc .ineg 1 pc') (k : WB b l Z n M pc' ls (.int (-x) :: st) H ce sl Q) : WB b l Z n M pc ls (.int x :: st) H ce sl Q := by
  obtain ⟨hd, rfl⟩ := hd
  exact W.pure (fun p e s m args below meth c C T locs X target h => XS.ineg X.here C.1 rfl (hb C.2.2.2.1 hd) rfl h) k
theorem W.lneg {x : Int64} (hd : D M pc .lneg 1 pc') (k : WB b l Z n M pc' ls (.long (-x) :: st) H ce sl Q) : WB b l Z n M pc ls (.long x :: st) H ce sl Q := by
  obtain ⟨hd, rfl⟩ := hd
  exact W.pure (fun p e s m args below meth c C T locs X target h => XT.lneg X.here C.1 rfl (hb C.2.2.2.1 hd) rfl h) k
theorem W.i2l {x : Int32} (hd : D M pc .i2l 1 pc') (k : WB b l Z n M pc' ls (.long (x.toInt64) :: st) H ce sl Q) : WB b l Z n M pc ls (.int x :: st) H ce sl Q := by
  obtain ⟨hd, rfl⟩ := hd
  exact W.pure (fun p e s m args below meth c C T locs X target h => XT.i2l X.here C.1 rfl (hb C.2.2.2.1 hd) rfl h) k
theorem W.l2i {x : Int64} (hd : D M pc .l2i 1 pc') (k : WB b l Z n M pc' ls (.int (x.toInt32) :: st) H ce sl Q) : WB b l Z n M pc ls (.long x :: st) H ce sl Q := by
  obtain ⟨hd, rfl⟩ := hd
  exact W.pure (fun p e s m args below meth c C T locs X target h => XT.l2i X.here C.1 rfl (hb C.2.2.2.1 hd) rfl h) k
theorem W.i2b {x : Int32} (hd : D M pc .i2b 1 pc') (k : WB b l Z n M pc' ls (.int (x.toInt8.toInt32) :: st) H ce sl Q) : WB b l Z n M pc ls (.int x :: st) H ce sl Q := by
  obtain ⟨hd, rfl⟩ := hd
  exact W.pure (fun p e s m args below meth c C T locs X target h => XT.i2b X.here C.1 rfl (hb C.2.2.2.1 hd) rfl h) k
theorem W.i2s {x : Int32} (hd : D M pc .i2s 1 pc') (k : WB b l Z n M pc' ls (.int (x.toInt16.toInt32) :: st) H ce sl Q) : WB b l Z n M pc ls (.int x :: st) H ce sl Q := by
  obtain ⟨hd, rfl⟩ := hd
  exact W.pure (fun p e s m args below meth c C T locs X target h => XT.i2s X.here C.1 rfl (hb C.2.2.2.1 hd) rfl h) k
theorem W.lcmp {x y : Int64} (hd : D M pc .lcmp 1 pc') (k : WB b l Z n M pc' ls (.int (XT.cmpL x y) :: st) H ce sl Q) : WB b l Z n M pc ls (.long y :: .long x :: st) H ce sl Q := by
  obtain ⟨hd, rfl⟩ := hd
  exact W.pure (fun p e s m args below meth c C T locs X target h => XT.lcmp X.here C.1 rfl (hb C.2.2.2.1 hd) rfl h) k
theorem W.iconst {i : Int} (v : Int32) (hd : D M pc (.iconst i) 1 pc') (hv : Int32.ofInt i = v) (k : WB b l Z n M pc' ls (.int v :: st) H ce sl Q) : WB b l Z n M pc ls st H ce sl Q := by
  obtain ⟨hd, rfl⟩ := hd
  exact W.pure (fun p e s m args below meth c C T locs X target h => XT.iconstV X.here C.1 rfl v (hb C.2.2.2.1 hd) hv h) k
theorem W.bipush {i : Int} (v : Int32) (hd : D M pc (.bipush i) 2 pc') (hv : (Int8.ofInt i).toInt32 = v) (k : WB b l Z n M pc' ls (.int v :: st) H ce sl Q) : WB b l Z n M pc ls st H ce sl Q := by
  obtain ⟨hd, rfl⟩ := hd
  exact W.pure (fun p e s m args below meth c C T locs X target h => XT.bipushV X.here C.1 rfl v (hb C.2.2.2.1 hd) hv h) k
theorem W.sipush {i : Int} (v : Int32) (hd : D M pc (.sipush i) 3 pc') (hv : (Int16.ofInt i).toInt32 = v) (k : WB b l Z n M pc' ls (.int v :: st) H ce sl Q) : WB b l Z n M pc ls st H ce sl Q := by
  obtain ⟨hd, rfl⟩ := hd
  exact W.pure (fun p e s m args below meth c C T locs X target h => XT.sipushV X.here C.1 rfl v (hb C.2.2.2.1 hd) hv h) k
theorem W.lconst {i : Fin 2} (v : Int64) (hd : D M pc (.lconst i) 1 pc') (hv : Int64.ofNat i = v) (k : WB b l Z n M pc' ls (.long v :: st) H ce sl Q) : WB b l Z n M pc ls st H ce sl Q := by
  obtain ⟨hd, rfl⟩ := hd
  exact W.pure (fun p e s m args below meth c C T locs X target h => XT.lconstV X.here C.1 rfl v (hb C.2.2.2.1 hd) hv h) k
theorem W.aconst  (hd : D M pc .aconst_null 1 pc') (k : WB b l Z n M pc' ls (.null :: st) H ce sl Q) : WB b l Z n M pc ls st H ce sl Q := by
  obtain ⟨hd, rfl⟩ := hd
  exact W.pure (fun p e s m args below meth c C T locs X target h => XS.aconstNull X.here C.1 rfl (hb C.2.2.2.1 hd) h) k
theorem W.ldc {i : Nat} {v : Int32} (hd : D M pc (.ldc i) 2 pc') (w : (Cond.constant M.1.cls i v).before a0 Z = true) (k : WB b l Z n M pc' ls (.int v :: st) H ce sl Q) : WB b l Z n M pc ls st H ce sl Q := by
  obtain ⟨hd, rfl⟩ := hd
  exact W.pure (fun p e s m args below meth c C T locs X target h => X.ldcI C.1 C.2.2.1 (mvT C.2.1 w) rfl (hb C.2.2.2.1 hd) h) k
theorem W.ldc2 {i : Nat} {v : Int64} (hd : D M pc (.ldc2_w i) 3 pc') (w : (Cond.constantLong M.1.cls i v).before a0 Z = true) (k : WB b l Z n M pc' ls (.long v :: st) H ce sl Q) : WB b l Z n M pc ls st H ce sl Q := by
  obtain ⟨hd, rfl⟩ := hd
  exact W.pure (fun p e s m args below meth c C T locs X target h => X.ldc2J C.1 C.2.2.1 (mvT C.2.1 w) rfl (hb C.2.2.2.1 hd) h) k
theorem W.iloadN {i : Fin 4} {v : Int32} (hd : D M pc (.iload_n i) 1 pc') (hl : ls[i.val]? = some (.val (.int v))) (k : WB b l Z n M pc' ls (.int v :: st) H ce sl Q) : WB b l Z n M pc ls st H ce sl Q := by
  obtain ⟨hd, rfl⟩ := hd
  exact W.pure (fun p e s m args below meth c C T locs X target h => XS.iloadN X.here C.1 rfl (hb C.2.2.2.1 hd) (loc_get hl) h) k
theorem W.iload {i : Nat} {v : Int32} (hd : D M pc (.iload i) 2 pc') (hl : ls[i]? = some (.val (.int v))) (k : WB b l Z n M pc' ls (.int v :: st) H ce sl Q) : WB b l Z n M pc ls st H ce sl Q := by
  obtain ⟨hd, rfl⟩ := hd
  exact W.pure (fun p e s m args below meth c C T locs X target h => XS.iload X.here C.1 rfl (hb C.2.2.2.1 hd) (loc_get hl) h) k
theorem W.lloadN {i : Fin 4} {v : Int64} (hd : D M pc (.lload_n i) 1 pc') (hl : ls[i.val]? = some (.val (.long v))) (k : WB b l Z n M pc' ls (.long v :: st) H ce sl Q) : WB b l Z n M pc ls st H ce sl Q := by
  obtain ⟨hd, rfl⟩ := hd
  exact W.pure (fun p e s m args below meth c C T locs X target h => XT.lloadN X.here C.1 rfl (hb C.2.2.2.1 hd) (loc_get hl) h) k
theorem W.lload {i : Nat} {v : Int64} (hd : D M pc (.lload i) 2 pc') (hl : ls[i]? = some (.val (.long v))) (k : WB b l Z n M pc' ls (.long v :: st) H ce sl Q) : WB b l Z n M pc ls st H ce sl Q := by
  obtain ⟨hd, rfl⟩ := hd
  exact W.pure (fun p e s m args below meth c C T locs X target h => XT.lload X.here C.1 rfl (hb C.2.2.2.1 hd) (loc_get hl) h) k
theorem W.aloadN {i : Fin 4} {v : Value} (hd : D M pc (.aload_n i) 1 pc') (hl : ls[i.val]? = some (.val v)) (hv : rfn v = true) (k : WB b l Z n M pc' ls (v :: st) H ce sl Q) : WB b l Z n M pc ls st H ce sl Q := by
  obtain ⟨hd, rfl⟩ := hd
  exact W.pure (fun p e s m args below meth c C T locs X target h => XS.aloadN X.here C.1 rfl (hb C.2.2.2.1 hd) (loc_get hl) (up_rfn n hv) h) k
theorem W.aload {i : Nat} {v : Value} (hd : D M pc (.aload i) 2 pc') (hl : ls[i]? = some (.val v)) (hv : rfn v = true) (k : WB b l Z n M pc' ls (v :: st) H ce sl Q) : WB b l Z n M pc ls st H ce sl Q := by
  obtain ⟨hd, rfl⟩ := hd
  exact W.pure (fun p e s m args below meth c C T locs X target h => XS.aload X.here C.1 rfl (hb C.2.2.2.1 hd) (loc_get hl) (up_rfn n hv) h) k
theorem W.istoreN {i : Fin 4} {v : Int32} (hd : D M pc (.istore_n i) 1 pc') (ho : one ls i.val = true) (k : WB b l Z n M pc' (ls.set i.val (.val (.int v))) st H ce sl Q) : WB b l Z n M pc ls (.int v :: st) H ce sl Q := by
  obtain ⟨hd, rfl⟩ := hd
  exact W.pure (fun p e s m args below meth c C T locs X target h => XS.istoreN X.here C.1 rfl (hb C.2.2.2.1 hd) rfl (store_1 (v := .int v) ho rfl) h) k
theorem W.istore {i : Nat} {v : Int32} (hd : D M pc (.istore i) 2 pc') (ho : one ls i = true) (k : WB b l Z n M pc' (ls.set i (.val (.int v))) st H ce sl Q) : WB b l Z n M pc ls (.int v :: st) H ce sl Q := by
  obtain ⟨hd, rfl⟩ := hd
  exact W.pure (fun p e s m args below meth c C T locs X target h => XS.istore X.here C.1 rfl (hb C.2.2.2.1 hd) rfl (store_1 (v := .int v) ho rfl) h) k
theorem W.astoreN {i : Fin 4} {v : Value} (hd : D M pc (.astore_n i) 1 pc') (ho : one ls i.val = true) (hv : rfn v = true) (k : WB b l Z n M pc' (ls.set i.val (.val v)) st H ce sl Q) : WB b l Z n M pc ls (v :: st) H ce sl Q := by
  obtain ⟨hd, rfl⟩ := hd
  exact W.pure (fun p e s m args below meth c C T locs X target h => XS.astoreN X.here C.1 rfl (hb C.2.2.2.1 hd) rfl (up_rfn n hv) (store_1 ho (rfn_cat hv)) h) k
theorem W.astore {i : Nat} {v : Value} (hd : D M pc (.astore i) 2 pc') (ho : one ls i = true) (hv : rfn v = true) (k : WB b l Z n M pc' (ls.set i (.val v)) st H ce sl Q) : WB b l Z n M pc ls (v :: st) H ce sl Q := by
  obtain ⟨hd, rfl⟩ := hd
  exact W.pure (fun p e s m args below meth c C T locs X target h => XS.astore X.here C.1 rfl (hb C.2.2.2.1 hd) rfl (up_rfn n hv) (store_1 ho (rfn_cat hv)) h) k
theorem W.lstoreN {i : Fin 4} {v : Int64} (hd : D M pc (.lstore_n i) 1 pc') (ho : two ls i.val = true) (k : WB b l Z n M pc' ((ls.set i.val (.val (.long v))).set (i.val + 1) .second) st H ce sl Q) : WB b l Z n M pc ls (.long v :: st) H ce sl Q := by
  obtain ⟨hd, rfl⟩ := hd
  exact W.pure (fun p e s m args below meth c C T locs X target h => XT.lstoreN X.here C.1 rfl (hb C.2.2.2.1 hd) rfl (store_2 ho) h) k
theorem W.lstore {i : Nat} {v : Int64} (hd : D M pc (.lstore i) 2 pc') (ho : two ls i = true) (k : WB b l Z n M pc' ((ls.set i (.val (.long v))).set (i + 1) .second) st H ce sl Q) : WB b l Z n M pc ls (.long v :: st) H ce sl Q := by
  obtain ⟨hd, rfl⟩ := hd
  exact W.pure (fun p e s m args below meth c C T locs X target h => XT.lstore X.here C.1 rfl (hb C.2.2.2.1 hd) rfl (store_2 ho) h) k
theorem W.iinc {i : Nat} {cst : Int} {x : Int32} (v : Int32) (hd : D M pc (.iinc i cst) 3 pc') (hv : Int32.ofInt cst = v) (hl : ls[i]? = some (.val (.int x))) (k : WB b l Z n M pc' (ls.set i (.val (.int (x + v)))) st H ce sl Q) : WB b l Z n M pc ls st H ce sl Q := by
  obtain ⟨hd, rfl⟩ := hd
  exact W.pure (fun p e s m args below meth c C T locs X target h => XT.iincV X.here C.1 rfl v (hb C.2.2.2.1 hd) hv (loc_get hl) (store_1 (v := .int (x + v)) (by simp [one, hl, Value.category]) rfl) h) k
theorem W.dup {v : Value} (hd : D M pc .dup 1 pc') (hv : v.category = 1) (k : WB b l Z n M pc' ls (v :: v :: st) H ce sl Q) : WB b l Z n M pc ls (v :: st) H ce sl Q := by
  obtain ⟨hd, rfl⟩ := hd
  exact W.pure (fun p e s m args below meth c C T locs X target h => XS.dup X.here C.1 rfl (hb C.2.2.2.1 hd) rfl ((up_cat n v).trans hv) h) k
theorem W.pop {v : Value} (hd : D M pc .pop 1 pc') (hv : v.category = 1) (k : WB b l Z n M pc' ls st H ce sl Q) : WB b l Z n M pc ls (v :: st) H ce sl Q := by
  obtain ⟨hd, rfl⟩ := hd
  exact W.pure (fun p e s m args below meth c C T locs X target h => XT.pop X.here C.1 rfl (hb C.2.2.2.1 hd) rfl ((up_cat n v).trans hv) h) k
theorem W.dupX1 {v w : Value} (hd : D M pc .dup_x1 1 pc') (hv : v.category = 1) (hw : w.category = 1) (k : WB b l Z n M pc' ls (v :: w :: v :: st) H ce sl Q) : WB b l Z n M pc ls (v :: w :: st) H ce sl Q := by
  obtain ⟨hd, rfl⟩ := hd
  exact W.pure (fun p e s m args below meth c C T locs X target h => XT.dupX1 X.here C.1 rfl (hb C.2.2.2.1 hd) rfl ((up_cat n v).trans hv) ((up_cat n w).trans hw) h) k
theorem W.dup2 {v w : Value} (hd : D M pc .dup2 1 pc') (hv : v.category = 1) (hw : w.category = 1) (k : WB b l Z n M pc' ls (v :: w :: v :: w :: st) H ce sl Q) : WB b l Z n M pc ls (v :: w :: st) H ce sl Q := by
  obtain ⟨hd, rfl⟩ := hd
  exact W.pure (fun p e s m args below meth c C T locs X target h => XT.dup2 X.here C.1 rfl (hb C.2.2.2.1 hd) rfl ((up_cat n v).trans hv) ((up_cat n w).trans hw) h) k
theorem W.dup2L {x : Int64} (hd : D M pc .dup2 1 pc') (k : WB b l Z n M pc' ls (.long x :: .long x :: st) H ce sl Q) : WB b l Z n M pc ls (.long x :: st) H ce sl Q := by
  obtain ⟨hd, rfl⟩ := hd
  exact W.pure (fun p e s m args below meth c C T locs X target h => XT.dup2L X.here C.1 rfl (hb C.2.2.2.1 hd) rfl h) k
theorem W.goto {o : Int} {t : Nat} (hd : DB M pc (.goto o) o pc' t) (k : WB b l Z n M t ls st H ce sl Q) : WB b l Z n M pc ls st H ce sl Q :=
  W.pure (fun p e s m args below meth c C T locs X target h => XS.goto X.here C.1 rfl rfl (hb C.2.2.2.1 hd.1) hd.2.2.1 hd.2.2.2 h) k
theorem W.if_eq {x : Int32} {o : Int} {t : Nat} (hd : DB M pc (.ifCond .eq o) o pc' t) (ky : (x = 0) → WB b l Z n M t ls st H ce sl Q) (kn : (¬ x = 0) → WB b l Z n M pc' ls st H ce sl Q) : WB b l Z n M pc ls (.int x :: st) H ce sl Q := by
  obtain ⟨h1, rfl, h3, h4⟩ := hd
  by_cases q : (x = 0)
  · exact W.pure (fun p e s m args below meth c C T locs X target h => XS.ifYes X.here C.1 rfl rfl (hb C.2.2.2.1 h1) rfl (XT.i0_eq_t q) h3 h4 h) (ky q)
  · exact W.pure (fun p e s m args below meth c C T locs X target h => XS.ifNo X.here C.1 rfl (hb C.2.2.2.1 h1) rfl (XT.i0_eq_f q) h) (kn q)
theorem W.ifl_eq {x y : Int64} {o : Int} {t : Nat} (hd : DB M pc (.ifCond .eq o) o pc' t) (ky : (x = y) → WB b l Z n M t ls st H ce sl Q) (kn : (¬ x = y) → WB b l Z n M pc' ls st H ce sl Q) : WB b l Z n M pc ls (.int (XT.cmpL x y) :: st) H ce sl Q := by
  obtain ⟨h1, rfl, h3, h4⟩ := hd
  by_cases q : (x = y)
  · exact W.pure (fun p e s m args below meth c C T locs X target h => XS.ifYes X.here C.1 rfl rfl (hb C.2.2.2.1 h1) rfl (XT.ll_eq_t q) h3 h4 h) (ky q)
  · exact W.pure (fun p e s m args below meth c C T locs X target h => XS.ifNo X.here C.1 rfl (hb C.2.2.2.1 h1) rfl (XT.ll_eq_f q) h) (kn q)
theorem W.icmp_eq {x y : Int32} {o : Int} {t : Nat} (hd : DB M pc (.if_icmp .eq o) o pc' t) (ky : (x = y) → WB b l Z n M t ls st H ce sl Q) (kn : (¬ x = y) → WB b l Z n M pc' ls st H ce sl Q) : WB b l Z n M pc ls (.int y :: .int x :: st) H ce sl Q := by
  obtain ⟨h1, rfl, h3, h4⟩ := hd
  by_cases q : (x = y)
  · exact W.pure (fun p e s m args below meth c C T locs X target h => XS.icmpYes X.here C.1 rfl rfl (hb C.2.2.2.1 h1) rfl (XT.ii_eq_t q) h3 h4 h) (ky q)
  · exact W.pure (fun p e s m args below meth c C T locs X target h => XS.icmpNo X.here C.1 rfl (hb C.2.2.2.1 h1) rfl (XT.ii_eq_f q) h) (kn q)
theorem W.if_ne {x : Int32} {o : Int} {t : Nat} (hd : DB M pc (.ifCond .ne o) o pc' t) (ky : (¬ x = 0) → WB b l Z n M t ls st H ce sl Q) (kn : (x = 0) → WB b l Z n M pc' ls st H ce sl Q) : WB b l Z n M pc ls (.int x :: st) H ce sl Q := by
  obtain ⟨h1, rfl, h3, h4⟩ := hd
  by_cases q : (x = 0)
  · exact W.pure (fun p e s m args below meth c C T locs X target h => XS.ifNo X.here C.1 rfl (hb C.2.2.2.1 h1) rfl (XT.i0_ne_f q) h) (kn q)
  · exact W.pure (fun p e s m args below meth c C T locs X target h => XS.ifYes X.here C.1 rfl rfl (hb C.2.2.2.1 h1) rfl (XT.i0_ne_t q) h3 h4 h) (ky q)
theorem W.ifl_ne {x y : Int64} {o : Int} {t : Nat} (hd : DB M pc (.ifCond .ne o) o pc' t) (ky : (¬ x = y) → WB b l Z n M t ls st H ce sl Q) (kn : (x = y) → WB b l Z n M pc' ls st H ce sl Q) : WB b l Z n M pc ls (.int (XT.cmpL x y) :: st) H ce sl Q := by
  obtain ⟨h1, rfl, h3, h4⟩ := hd
  by_cases q : (x = y)
  · exact W.pure (fun p e s m args below meth c C T locs X target h => XS.ifNo X.here C.1 rfl (hb C.2.2.2.1 h1) rfl (XT.ll_ne_f q) h) (kn q)
  · exact W.pure (fun p e s m args below meth c C T locs X target h => XS.ifYes X.here C.1 rfl rfl (hb C.2.2.2.1 h1) rfl (XT.ll_ne_t q) h3 h4 h) (ky q)
theorem W.icmp_ne {x y : Int32} {o : Int} {t : Nat} (hd : DB M pc (.if_icmp .ne o) o pc' t) (ky : (¬ x = y) → WB b l Z n M t ls st H ce sl Q) (kn : (x = y) → WB b l Z n M pc' ls st H ce sl Q) : WB b l Z n M pc ls (.int y :: .int x :: st) H ce sl Q := by
  obtain ⟨h1, rfl, h3, h4⟩ := hd
  by_cases q : (x = y)
  · exact W.pure (fun p e s m args below meth c C T locs X target h => XS.icmpNo X.here C.1 rfl (hb C.2.2.2.1 h1) rfl (XT.ii_ne_f q) h) (kn q)
  · exact W.pure (fun p e s m args below meth c C T locs X target h => XS.icmpYes X.here C.1 rfl rfl (hb C.2.2.2.1 h1) rfl (XT.ii_ne_t q) h3 h4 h) (ky q)
theorem W.if_lt {x : Int32} {o : Int} {t : Nat} (hd : DB M pc (.ifCond .lt o) o pc' t) (ky : (x < 0) → WB b l Z n M t ls st H ce sl Q) (kn : (¬ x < 0) → WB b l Z n M pc' ls st H ce sl Q) : WB b l Z n M pc ls (.int x :: st) H ce sl Q := by
  obtain ⟨h1, rfl, h3, h4⟩ := hd
  by_cases q : (x < 0)
  · exact W.pure (fun p e s m args below meth c C T locs X target h => XS.ifYes X.here C.1 rfl rfl (hb C.2.2.2.1 h1) rfl (XT.i0_lt_t q) h3 h4 h) (ky q)
  · exact W.pure (fun p e s m args below meth c C T locs X target h => XS.ifNo X.here C.1 rfl (hb C.2.2.2.1 h1) rfl (XT.i0_lt_f q) h) (kn q)
theorem W.ifl_lt {x y : Int64} {o : Int} {t : Nat} (hd : DB M pc (.ifCond .lt o) o pc' t) (ky : (x < y) → WB b l Z n M t ls st H ce sl Q) (kn : (¬ x < y) → WB b l Z n M pc' ls st H ce sl Q) : WB b l Z n M pc ls (.int (XT.cmpL x y) :: st) H ce sl Q := by
  obtain ⟨h1, rfl, h3, h4⟩ := hd
  by_cases q : (x < y)
  · exact W.pure (fun p e s m args below meth c C T locs X target h => XS.ifYes X.here C.1 rfl rfl (hb C.2.2.2.1 h1) rfl (XT.ll_lt_t q) h3 h4 h) (ky q)
  · exact W.pure (fun p e s m args below meth c C T locs X target h => XS.ifNo X.here C.1 rfl (hb C.2.2.2.1 h1) rfl (XT.ll_lt_f q) h) (kn q)
theorem W.icmp_lt {x y : Int32} {o : Int} {t : Nat} (hd : DB M pc (.if_icmp .lt o) o pc' t) (ky : (x < y) → WB b l Z n M t ls st H ce sl Q) (kn : (¬ x < y) → WB b l Z n M pc' ls st H ce sl Q) : WB b l Z n M pc ls (.int y :: .int x :: st) H ce sl Q := by
  obtain ⟨h1, rfl, h3, h4⟩ := hd
  by_cases q : (x < y)
  · exact W.pure (fun p e s m args below meth c C T locs X target h => XS.icmpYes X.here C.1 rfl rfl (hb C.2.2.2.1 h1) rfl (XT.ii_lt_t q) h3 h4 h) (ky q)
  · exact W.pure (fun p e s m args below meth c C T locs X target h => XS.icmpNo X.here C.1 rfl (hb C.2.2.2.1 h1) rfl (XT.ii_lt_f q) h) (kn q)
theorem W.if_ge {x : Int32} {o : Int} {t : Nat} (hd : DB M pc (.ifCond .ge o) o pc' t) (ky : (¬ x < 0) → WB b l Z n M t ls st H ce sl Q) (kn : (x < 0) → WB b l Z n M pc' ls st H ce sl Q) : WB b l Z n M pc ls (.int x :: st) H ce sl Q := by
  obtain ⟨h1, rfl, h3, h4⟩ := hd
  by_cases q : (x < 0)
  · exact W.pure (fun p e s m args below meth c C T locs X target h => XS.ifNo X.here C.1 rfl (hb C.2.2.2.1 h1) rfl (XT.i0_ge_f q) h) (kn q)
  · exact W.pure (fun p e s m args below meth c C T locs X target h => XS.ifYes X.here C.1 rfl rfl (hb C.2.2.2.1 h1) rfl (XT.i0_ge_t q) h3 h4 h) (ky q)
theorem W.ifl_ge {x y : Int64} {o : Int} {t : Nat} (hd : DB M pc (.ifCond .ge o) o pc' t) (ky : (¬ x < y) → WB b l Z n M t ls st H ce sl Q) (kn : (x < y) → WB b l Z n M pc' ls st H ce sl Q) : WB b l Z n M pc ls (.int (XT.cmpL x y) :: st) H ce sl Q := by
  obtain ⟨h1, rfl, h3, h4⟩ := hd
  by_cases q : (x < y)
  · exact W.pure (fun p e s m args below meth c C T locs X target h => XS.ifNo X.here C.1 rfl (hb C.2.2.2.1 h1) rfl (XT.ll_ge_f q) h) (kn q)
  · exact W.pure (fun p e s m args below meth c C T locs X target h => XS.ifYes X.here C.1 rfl rfl (hb C.2.2.2.1 h1) rfl (XT.ll_ge_t q) h3 h4 h) (ky q)
theorem W.icmp_ge {x y : Int32} {o : Int} {t : Nat} (hd : DB M pc (.if_icmp .ge o) o pc' t) (ky : (¬ x < y) → WB b l Z n M t ls st H ce sl Q) (kn : (x < y) → WB b l Z n M pc' ls st H ce sl Q) : WB b l Z n M pc ls (.int y :: .int x :: st) H ce sl Q := by
  obtain ⟨h1, rfl, h3, h4⟩ := hd
  by_cases q : (x < y)
  · exact W.pure (fun p e s m args below meth c C T locs X target h => XS.icmpNo X.here C.1 rfl (hb C.2.2.2.1 h1) rfl (XT.ii_ge_f q) h) (kn q)
  · exact W.pure (fun p e s m args below meth c C T locs X target h => XS.icmpYes X.here C.1 rfl rfl (hb C.2.2.2.1 h1) rfl (XT.ii_ge_t q) h3 h4 h) (ky q)
theorem W.if_gt {x : Int32} {o : Int} {t : Nat} (hd : DB M pc (.ifCond .gt o) o pc' t) (ky : (0 < x) → WB b l Z n M t ls st H ce sl Q) (kn : (¬ 0 < x) → WB b l Z n M pc' ls st H ce sl Q) : WB b l Z n M pc ls (.int x :: st) H ce sl Q := by
  obtain ⟨h1, rfl, h3, h4⟩ := hd
  by_cases q : (0 < x)
  · exact W.pure (fun p e s m args below meth c C T locs X target h => XS.ifYes X.here C.1 rfl rfl (hb C.2.2.2.1 h1) rfl (XT.i0_gt_t q) h3 h4 h) (ky q)
  · exact W.pure (fun p e s m args below meth c C T locs X target h => XS.ifNo X.here C.1 rfl (hb C.2.2.2.1 h1) rfl (XT.i0_gt_f q) h) (kn q)
theorem W.ifl_gt {x y : Int64} {o : Int} {t : Nat} (hd : DB M pc (.ifCond .gt o) o pc' t) (ky : (y < x) → WB b l Z n M t ls st H ce sl Q) (kn : (¬ y < x) → WB b l Z n M pc' ls st H ce sl Q) : WB b l Z n M pc ls (.int (XT.cmpL x y) :: st) H ce sl Q := by
  obtain ⟨h1, rfl, h3, h4⟩ := hd
  by_cases q : (y < x)
  · exact W.pure (fun p e s m args below meth c C T locs X target h => XS.ifYes X.here C.1 rfl rfl (hb C.2.2.2.1 h1) rfl (XT.ll_gt_t q) h3 h4 h) (ky q)
  · exact W.pure (fun p e s m args below meth c C T locs X target h => XS.ifNo X.here C.1 rfl (hb C.2.2.2.1 h1) rfl (XT.ll_gt_f q) h) (kn q)
theorem W.icmp_gt {x y : Int32} {o : Int} {t : Nat} (hd : DB M pc (.if_icmp .gt o) o pc' t) (ky : (y < x) → WB b l Z n M t ls st H ce sl Q) (kn : (¬ y < x) → WB b l Z n M pc' ls st H ce sl Q) : WB b l Z n M pc ls (.int y :: .int x :: st) H ce sl Q := by
  obtain ⟨h1, rfl, h3, h4⟩ := hd
  by_cases q : (y < x)
  · exact W.pure (fun p e s m args below meth c C T locs X target h => XS.icmpYes X.here C.1 rfl rfl (hb C.2.2.2.1 h1) rfl (XT.ii_gt_t q) h3 h4 h) (ky q)
  · exact W.pure (fun p e s m args below meth c C T locs X target h => XS.icmpNo X.here C.1 rfl (hb C.2.2.2.1 h1) rfl (XT.ii_gt_f q) h) (kn q)
theorem W.if_le {x : Int32} {o : Int} {t : Nat} (hd : DB M pc (.ifCond .le o) o pc' t) (ky : (¬ 0 < x) → WB b l Z n M t ls st H ce sl Q) (kn : (0 < x) → WB b l Z n M pc' ls st H ce sl Q) : WB b l Z n M pc ls (.int x :: st) H ce sl Q := by
  obtain ⟨h1, rfl, h3, h4⟩ := hd
  by_cases q : (0 < x)
  · exact W.pure (fun p e s m args below meth c C T locs X target h => XS.ifNo X.here C.1 rfl (hb C.2.2.2.1 h1) rfl (XT.i0_le_f q) h) (kn q)
  · exact W.pure (fun p e s m args below meth c C T locs X target h => XS.ifYes X.here C.1 rfl rfl (hb C.2.2.2.1 h1) rfl (XT.i0_le_t q) h3 h4 h) (ky q)
theorem W.ifl_le {x y : Int64} {o : Int} {t : Nat} (hd : DB M pc (.ifCond .le o) o pc' t) (ky : (¬ y < x) → WB b l Z n M t ls st H ce sl Q) (kn : (y < x) → WB b l Z n M pc' ls st H ce sl Q) : WB b l Z n M pc ls (.int (XT.cmpL x y) :: st) H ce sl Q := by
  obtain ⟨h1, rfl, h3, h4⟩ := hd
  by_cases q : (y < x)
  · exact W.pure (fun p e s m args below meth c C T locs X target h => XS.ifNo X.here C.1 rfl (hb C.2.2.2.1 h1) rfl (XT.ll_le_f q) h) (kn q)
  · exact W.pure (fun p e s m args below meth c C T locs X target h => XS.ifYes X.here C.1 rfl rfl (hb C.2.2.2.1 h1) rfl (XT.ll_le_t q) h3 h4 h) (ky q)
theorem W.icmp_le {x y : Int32} {o : Int} {t : Nat} (hd : DB M pc (.if_icmp .le o) o pc' t) (ky : (¬ y < x) → WB b l Z n M t ls st H ce sl Q) (kn : (y < x) → WB b l Z n M pc' ls st H ce sl Q) : WB b l Z n M pc ls (.int y :: .int x :: st) H ce sl Q := by
  obtain ⟨h1, rfl, h3, h4⟩ := hd
  by_cases q : (y < x)
  · exact W.pure (fun p e s m args below meth c C T locs X target h => XS.icmpNo X.here C.1 rfl (hb C.2.2.2.1 h1) rfl (XT.ii_le_f q) h) (kn q)
  · exact W.pure (fun p e s m args below meth c C T locs X target h => XS.icmpYes X.here C.1 rfl rfl (hb C.2.2.2.1 h1) rfl (XT.ii_le_t q) h3 h4 h) (ky q)
theorem W.acmp_eq {v w : Value} {o : Int} {t : Nat} (hd : DB M pc (.if_acmp .eq o) o pc' t) (hv : v.isRef = true) (hw : w.isRef = true) (ky : (v = w) → WB b l Z n M t ls st H ce sl Q) (kn : (¬ v = w) → WB b l Z n M pc' ls st H ce sl Q) : WB b l Z n M pc ls (w :: v :: st) H ce sl Q := by
  obtain ⟨h1, rfl, h3, h4⟩ := hd
  by_cases q : (v = w)
  · exact W.pure (fun p e s m args below meth c C T locs X target h => XT.acmpYes X.here C.1 rfl rfl (hb C.2.2.2.1 h1) rfl (up_isRef n hv) (up_isRef n hw) (XT.aa_eq_t (congrArg (up n) q)) h3 h4 h) (ky q)
  · exact W.pure (fun p e s m args below meth c C T locs X target h => XT.acmpNo X.here C.1 rfl (hb C.2.2.2.1 h1) rfl (up_isRef n hv) (up_isRef n hw) (XT.aa_eq_f (fun z => q (up_inj hv hw z))) h) (kn q)
theorem W.acmp_ne {v w : Value} {o : Int} {t : Nat} (hd : DB M pc (.if_acmp .ne o) o pc' t) (hv : v.isRef = true) (hw : w.isRef = true) (ky : (¬ v = w) → WB b l Z n M t ls st H ce sl Q) (kn : (v = w) → WB b l Z n M pc' ls st H ce sl Q) : WB b l Z n M pc ls (w :: v :: st) H ce sl Q := by
  obtain ⟨h1, rfl, h3, h4⟩ := hd
  by_cases q : (v = w)
  · exact W.pure (fun p e s m args below meth c C T locs X target h => XT.acmpNo X.here C.1 rfl (hb C.2.2.2.1 h1) rfl (up_isRef n hv) (up_isRef n hw) (XT.aa_ne_f (congrArg (up n) q)) h) (kn q)
  · exact W.pure (fun p e s m args below meth c C T locs X target h => XT.acmpYes X.here C.1 rfl rfl (hb C.2.2.2.1 h1) rfl (up_isRef n hv) (up_isRef n hw) (XT.aa_ne_t (fun z => q (up_inj hv hw z))) h3 h4 h) (ky q)
theorem up_null {n : Nat} {v : Value} (hv : v.isRef = true) (h : ¬ v = .null) : ¬ up n v = .null := by cases v <;> simp_all [up, Value.isRef]
theorem W.ifnull {v : Value} {o : Int} {t : Nat} (hd : DB M pc (.ifnull o) o pc' t) (hv : v.isRef = true) (ky : (v = .null) → WB b l Z n M t ls st H ce sl Q) (kn : (¬ v = .null) → WB b l Z n M pc' ls st H ce sl Q) : WB b l Z n M pc ls (v :: st) H ce sl Q := by
  obtain ⟨h1, rfl, h3, h4⟩ := hd
  by_cases q : (v = .null)
  · exact W.pure (fun p e s m args below meth c C T locs X target h => XT.nullYes X.here C.1 rfl rfl (hb C.2.2.2.1 h1) rfl (congrArg (up n) q) h3 h4 h) (ky q)
  · exact W.pure (fun p e s m args below meth c C T locs X target h => XT.nullNo X.here C.1 rfl (hb C.2.2.2.1 h1) rfl (up_isRef n hv) (up_null hv q) h) (kn q)
theorem W.ifnonnull {v : Value} {o : Int} {t : Nat} (hd : DB M pc (.ifnonnull o) o pc' t) (hv : v.isRef = true) (ky : (¬ v = .null) → WB b l Z n M t ls st H ce sl Q) (kn : (v = .null) → WB b l Z n M pc' ls st H ce sl Q) : WB b l Z n M pc ls (v :: st) H ce sl Q := by
  obtain ⟨h1, rfl, h3, h4⟩ := hd
  by_cases q : (v = .null)
  · exact W.pure (fun p e s m args below meth c C T locs X target h => XT.nonnullNo X.here C.1 rfl (hb C.2.2.2.1 h1) rfl (congrArg (up n) q) h) (kn q)
  · exact W.pure (fun p e s m args below meth c C T locs X target h => XT.nonnullYes X.here C.1 rfl rfl (hb C.2.2.2.1 h1) rfl (up_isRef n hv) (up_null hv q) h3 h4 h) (ky q)
theorem W.nop_ {H2 : AHeap} (e : H2 = H) (k : WB b l Z n M pc ls st H2 ce sl Q) : WB b l Z n M pc ls st H ce sl Q := e ▸ k
/-! heap: reads -/
theorem W.getfield {i : Nat} {C O nm d : String} {fs : List (Key × Value)} {v : Value} {k : Nat} (j : Nat) (hd : D M pc (.getfield i) 3 pc') (w : (Cond.fieldLink M.1.cls i O nm d).before a0 Z = true) (hk : H[k]? = some (.inl (C, fs))) (hj : fs[j]? = some ((O, nm, d), v))
    (kk : WB b l Z n M pc' ls (v :: st) H ce sl Q) : WB b l Z n M pc ls (.ref k :: st) H ce sl Q := by
  obtain ⟨hd, rfl⟩ := hd
  refine W.step (fun p e s m args below meth c C T locs X hH hF => ?_) kk
  obtain ⟨T', X', e', stp⟩ := getF X C.1 C.2.1 C.2.2.1 (host := "") (Or.inl w) Via.refl rfl ((hH.2 k _ hk rfl).2.1 j _ hj) (g := mkF m pc (loc n ls) (stk n (.ref k :: st))) rfl rfl (hb C.2.2.2.1 hd)
  exact ⟨T', locs, X', e' ▸ hH, hF, stp⟩
theorem W.putfield {i : Nat} {C O nm d : String} {fs : List (Key × Value)} {v old : Value} {k kk : Nat} {ty : FieldType} (j : Nat) (hd : D M pc (.putfield i) 3 pc') (w : (Cond.fieldLink M.1.cls i O nm d).before a0 Z = true) (hk : H[k]? = some (.inl (C, fs))) (hj : fs[j]? = some ((O, nm, d), old))
    (L : (Cond.lays C O nm d).before a0 Z = true ∨ ((Cond.laysFinal C O nm d).before a0 Z = true ∧ M.1.cls = O ∧ M.1.name = "<init>")) (wi : (Cond.instantiable C kk).before a0 Z = true) (hty : parseFieldDescriptor d = some ty) (hn : ∀ n, narrow ty (up n v) = up n v) (hf : ∀ n, fits ty (up n v) = true)
    (k' : WB b l Z n M pc' ls st (H.set k (.inl (C, fs.set j ((O, nm, d), v)))) ce sl Q) : WB b l Z n M pc ls (v :: .ref k :: st) H ce sl Q := by
  obtain ⟨hd, rfl⟩ := hd
  refine W.step (fun p e s m args below meth c C T locs X hH hF => ?_) k'
  have O1 := hH.2 k _ hk rfl
  obtain ⟨T', h', X', e', Wq, stp⟩ := putF X C.1 C.2.1 C.2.2.1 (host := "") (Or.inl w) Via.refl rfl (O1.2.1 j _ hj) O1.1 (L.imp id (fun q => ⟨q.1, q.2.1, C.2.2.2.2.2.2.2.trans q.2.2⟩)) wi hty (hn n) (hf n) (g := mkF m pc (loc n ls) (stk n (v :: .ref k :: st))) rfl rfl (hb C.2.2.2.1 hd)
  subst e'
  exact ⟨T', _, X', hH.put Wq (OR.field (hH.2 k _ hk rfl) hj Wq), Fr.snoc X' hF (Nat.le_add_right n k), stp⟩
theorem arr_at {ty : FieldType} {vs : List Value} {cl : Cell} {i : Nat} {v : Value} {j : Int32} (e : cl.slots = (vs.map (up n)).toArray) (hj : ¬ j < 0 ∧ j.toNatClampNeg = i) (hv : vs[i]? = some v) : ¬ (j < 0 ∨ cl.slots.size ≤ j.toNatClampNeg) ∧ cl.slots[j.toNatClampNeg]? = some (up n v) := by
  have hlt := (List.getElem?_eq_some_iff.mp hv).1
  refine ⟨fun q => q.elim hj.1 fun q => ?_, ?_⟩
  · rw [e, hj.2, List.size_toArray, List.length_map] at q; omega
  · rw [e, hj.2]; simp [hv]
theorem W.arraylength {k : Nat} {ty : FieldType} {vs : List Value} (z : Int32) (hd : D M pc .arraylength 1 pc') (hk : H[k]? = some (.inr (ty, vs))) (hJ : isJ (.inr (ty, vs)) = false) (hN : Int32.ofNat vs.length = z) (kk : WB b l Z n M pc' ls (.int z :: st) H ce sl Q) : WB b l Z n M pc ls (.ref k :: st) H ce sl Q := by
  obtain ⟨hd, rfl⟩ := hd
  refine W.step (fun p e s m args below meth c C T locs X hH hF => ?_) kk
  obtain ⟨cl, A, e'⟩ := hH.2 k _ hk hJ
  refine ⟨T, locs, X, hH, hF, fun target h => X.arraylength C.1 A.1 (State.isArrayOf_alike C.2.1.alike A.2.1) (g := mkF m pc (loc n ls) (stk n (.ref k :: st))) rfl rfl (hb C.2.2.2.1 hd) _ ?_⟩
  have : cl.slots.size.toInt32 = z := by rw [e', List.size_toArray, List.length_map, ← hN]
  rw [this]; exact h
theorem W.iaload {k i : Nat} {vs : List Value} {v : Value} {j : Int32} (hd : D M pc .iaload 1 pc') (hk : H[k]? = some (.inr (.int, vs))) (hj : ¬ j < 0 ∧ j.toNatClampNeg = i) (hv : vs[i]? = some v) (kk : WB b l Z n M pc' ls (v :: st) H ce sl Q) : WB b l Z n M pc ls (.int j :: .ref k :: st) H ce sl Q := by
  obtain ⟨hd, rfl⟩ := hd
  refine W.step (fun p e s m args below meth c C T locs X hH hF => ?_) kk
  obtain ⟨cl, A, e'⟩ := hH.2 k _ hk rfl
  obtain ⟨q1, q2⟩ := arr_at (ty := .int) e' hj hv
  exact ⟨T, locs, X, hH, hF, fun target h => X.iaload C.1 A.1 (State.isArrayOf_alike C.2.1.alike A.2.1) A.2.2 q1 q2 (g := mkF m pc (loc n ls) (stk n (.int j :: .ref k :: st))) rfl rfl (hb C.2.2.2.1 hd) _ h⟩
theorem W.laload {k i : Nat} {vs : List Value} {v : Value} {j : Int32} (hd : D M pc .laload 1 pc') (hk : H[k]? = some (.inr (.long, vs))) (hj : ¬ j < 0 ∧ j.toNatClampNeg = i) (hv : vs[i]? = some v) (kk : WB b l Z n M pc' ls (v :: st) H ce sl Q) : WB b l Z n M pc ls (.int j :: .ref k :: st) H ce sl Q := by
  obtain ⟨hd, rfl⟩ := hd
  refine W.step (fun p e s m args below meth c C T locs X hH hF => ?_) kk
  obtain ⟨cl, A, e'⟩ := hH.2 k _ hk rfl
  obtain ⟨q1, q2⟩ := arr_at (ty := .int) e' hj hv
  exact ⟨T, locs, X, hH, hF, fun target h => X.laload C.1 A.1 (State.isArrayOf_alike C.2.1.alike A.2.1) A.2.2 q1 q2 (g := mkF m pc (loc n ls) (stk n (.int j :: .ref k :: st))) rfl rfl (hb C.2.2.2.1 hd) _ h⟩
theorem W.baload {k i : Nat} {vs : List Value} {v : Value} {j : Int32} (hd : D M pc .baload 1 pc') (hk : H[k]? = some (.inr (.byte, vs))) (hj : ¬ j < 0 ∧ j.toNatClampNeg = i) (hv : vs[i]? = some v) (kk : WB b l Z n M pc' ls (v :: st) H ce sl Q) : WB b l Z n M pc ls (.int j :: .ref k :: st) H ce sl Q := by
  obtain ⟨hd, rfl⟩ := hd
  refine W.step (fun p e s m args below meth c C T locs X hH hF => ?_) kk
  obtain ⟨cl, A, e'⟩ := hH.2 k _ hk rfl
  obtain ⟨q1, q2⟩ := arr_at (ty := .int) e' hj hv
  exact ⟨T, locs, X, hH, hF, fun target h => X.baloadBytes C.1 A.1 (State.isArrayOf_alike C.2.1.alike A.2.1) A.2.2 q1 q2 (g := mkF m pc (loc n ls) (stk n (.int j :: .ref k :: st))) rfl rfl (hb C.2.2.2.1 hd) _ h⟩
theorem W.zaload {k i : Nat} {vs : List Value} {v : Value} {j : Int32} (hd : D M pc .baload 1 pc') (hk : H[k]? = some (.inr (.boolean, vs))) (hj : ¬ j < 0 ∧ j.toNatClampNeg = i) (hv : vs[i]? = some v) (kk : WB b l Z n M pc' ls (v :: st) H ce sl Q) : WB b l Z n M pc ls (.int j :: .ref k :: st) H ce sl Q := by
  obtain ⟨hd, rfl⟩ := hd
  refine W.step (fun p e s m args below meth c C T locs X hH hF => ?_) kk
  obtain ⟨cl, A, e'⟩ := hH.2 k _ hk rfl
  obtain ⟨q1, q2⟩ := arr_at (ty := .int) e' hj hv
  exact ⟨T, locs, X, hH, hF, fun target h => X.baloadBooleans C.1 A.1 (State.isArrayOf_alike C.2.1.alike A.2.1) A.2.2 q1 q2 (g := mkF m pc (loc n ls) (stk n (.int j :: .ref k :: st))) rfl rfl (hb C.2.2.2.1 hd) _ h⟩
/-! heap: stores into arrays -/
theorem arr_in' {vs : List Value} {cl : Cell} {i : Nat} {j : Int32} (e : cl.slots = (vs.map (up n)).toArray) (hj : ¬ j < 0 ∧ j.toNatClampNeg = i) (hv : i < vs.length) : ¬ (j < 0 ∨ cl.slots.size ≤ j.toNatClampNeg) := by
  refine fun q => q.elim hj.1 fun q => ?_
  rw [e, hj.2] at q; simp at q; omega
theorem W.iastore {k i : Nat} {vs : List Value} {x : Int32} {j : Int32} (hd : D M pc .iastore 1 pc') (hk : H[k]? = some (.inr (.int, vs))) (hj : ¬ j < 0 ∧ j.toNatClampNeg = i) (hv : i < vs.length) (kk : WB b l Z n M pc' ls st (H.set k (.inr (.int, vs.set i (.int x)))) ce sl Q) : WB b l Z n M pc ls (.int x :: .int j :: .ref k :: st) H ce sl Q := by
  obtain ⟨hd, rfl⟩ := hd
  refine W.step (fun p e s m args below meth c C T locs X hH hF => ?_) kk
  have O1 := hH.2 k _ hk rfl
  obtain ⟨cl, A, e'⟩ := O1
  obtain ⟨T', h', X', eh, Wq, stp⟩ := stI X C.1 C.2.1 rfl A (arr_in' e' hj hv) (g := mkF m pc (loc n ls) (stk n (.int x :: .int j :: .ref k :: st))) rfl rfl (hb C.2.2.2.1 hd)
  subst eh
  rw [hj.2] at Wq
  exact ⟨T', _, X', hH.put Wq (OR.elem (w := .int x) ⟨cl, A, e'⟩ Wq), Fr.snoc X' hF (Nat.le_add_right n k), stp⟩
theorem W.lastore {k i : Nat} {vs : List Value} {x : Int64} {j : Int32} (hd : D M pc .lastore 1 pc') (hk : H[k]? = some (.inr (.long, vs))) (hj : ¬ j < 0 ∧ j.toNatClampNeg = i) (hv : i < vs.length) (kk : WB b l Z n M pc' ls st (H.set k (.inr (.long, vs.set i (.long x)))) ce sl Q) : WB b l Z n M pc ls (.long x :: .int j :: .ref k :: st) H ce sl Q := by
  obtain ⟨hd, rfl⟩ := hd
  refine W.step (fun p e s m args below meth c C T locs X hH hF => ?_) kk
  have O1 := hH.2 k _ hk rfl
  obtain ⟨cl, A, e'⟩ := O1
  obtain ⟨T', h', X', eh, Wq, stp⟩ := stJ X C.1 C.2.1 rfl A (arr_in' e' hj hv) (g := mkF m pc (loc n ls) (stk n (.long x :: .int j :: .ref k :: st))) rfl rfl (hb C.2.2.2.1 hd)
  subst eh
  rw [hj.2] at Wq
  exact ⟨T', _, X', hH.put Wq (OR.elem (w := .long x) ⟨cl, A, e'⟩ Wq), Fr.snoc X' hF (Nat.le_add_right n k), stp⟩
theorem W.bastore {k i : Nat} {vs : List Value} {x : Int32} {j : Int32} (hd : D M pc .bastore 1 pc') (hk : H[k]? = some (.inr (.byte, vs))) (hj : ¬ j < 0 ∧ j.toNatClampNeg = i) (hv : i < vs.length) (kk : WB b l Z n M pc' ls st (H.set k (.inr (.byte, vs.set i (.int x.toInt8.toInt32)))) ce sl Q) : WB b l Z n M pc ls (.int x :: .int j :: .ref k :: st) H ce sl Q := by
  obtain ⟨hd, rfl⟩ := hd
  refine W.step (fun p e s m args below meth c C T locs X hH hF => ?_) kk
  have O1 := hH.2 k _ hk rfl
  obtain ⟨cl, A, e'⟩ := O1
  obtain ⟨T', h', X', eh, Wq, stp⟩ := stB X C.1 C.2.1 rfl A (arr_in' e' hj hv) (g := mkF m pc (loc n ls) (stk n (.int x :: .int j :: .ref k :: st))) rfl rfl (hb C.2.2.2.1 hd)
  subst eh
  rw [hj.2] at Wq
  exact ⟨T', _, X', hH.put Wq (OR.elem (w := .int x.toInt8.toInt32) ⟨cl, A, e'⟩ Wq), Fr.snoc X' hF (Nat.le_add_right n k), stp⟩
theorem W.zastore {k i : Nat} {vs : List Value} {x : Int32} {j : Int32} (hd : D M pc .bastore 1 pc') (hk : H[k]? = some (.inr (.boolean, vs))) (hj : ¬ j < 0 ∧ j.toNatClampNeg = i) (hv : i < vs.length) (kk : WB b l Z n M pc' ls st (H.set k (.inr (.boolean, vs.set i (.int (x &&& 1))))) ce sl Q) : WB b l Z n M pc ls (.int x :: .int j :: .ref k :: st) H ce sl Q := by
  obtain ⟨hd, rfl⟩ := hd
  refine W.step (fun p e s m args below meth c C T locs X hH hF => ?_) kk
  have O1 := hH.2 k _ hk rfl
  obtain ⟨cl, A, e'⟩ := O1
  obtain ⟨T', h', X', eh, Wq, stp⟩ := stZ X C.1 C.2.1 rfl A (arr_in' e' hj hv) (g := mkF m pc (loc n ls) (stk n (.int x :: .int j :: .ref k :: st))) rfl rfl (hb C.2.2.2.1 hd)
  subst eh
  rw [hj.2] at Wq
  exact ⟨T', _, X', hH.put Wq (OR.elem (w := .int (x &&& 1)) ⟨cl, A, e'⟩ Wq), Fr.snoc X' hF (Nat.le_add_right n k), stp⟩
/-! heap: makers -/
theorem ext_push (h : Heap) (x : Cell) : Ext h (h.push x) ∧ (h.push x).size = h.size + 1 ∧ (h.push x)[h.size]? = some x :=
  ⟨⟨by simp, fun a c q => by rw [Array.getElem?_push_lt (Array.getElem?_eq_some_iff.mp q).1]; exact (Array.getElem?_eq_getElem _).symm.trans q⟩, by simp, by simp⟩
theorem W.new {i nk N : Nat} {C : String} {fs : List (Key × Value)} (hd : D M pc (.new i) 3 pc') (w : (Cond.classLink M.1.cls i C).before a0 Z = true) (K : OkC a0 Z C nk fs) (hN : H.length = N) (hc : ce + 1 ≤ M.2.2.2.2.cells) (hl : sl + nk ≤ M.2.2.2.2.slots)
    (kk : WB b l Z n M pc' ls (.ref N :: st) (H ++ [.inl (C, fs)]) (ce + 1) (sl + nk) Q) : WB b l Z n M pc ls st H ce sl Q := by
  obtain ⟨hd, rfl⟩ := hd
  refine W.step (fun p e s m args below meth c Cx T locs X hH hF => ?_) kk
  obtain ⟨vm', cC, kC, h1, h2, h3, h4, X', stp⟩ := X.newCold Cx.1 Cx.2.2.1 (mv Cx.2.1 w) (mv Cx.2.1 K.1) (mv Cx.2.1 K.2.1) (g := mkF m pc (loc n ls) (stk n st)) rfl (hb Cx.2.2.2.1 hd) hc hl
  obtain ⟨E, S, G⟩ := ext_push T.heap { cls := cC, slots := kC.instanceTypes.map defaultValue, vm := .none }
  have hfc : Z.vm.findClass C = some cC := by rw [← Cx.2.1.alike.findClass]; exact h1
  obtain ⟨kZ, z1, -⟩ := Vm.findClass_spec hfc
  obtain ⟨k', z2, z3⟩ := Cx.2.1.alike.2.2 _ _ z1
  cases h2.symm.trans z2
  have ei : kC.instanceTypes = kZ.instanceTypes := by rw [z3]
  refine ⟨_, locs, X', hH.push E S ⟨⟨_, kZ, G, hfc, z1, rfl, fun _ => by simp [ei]⟩, fun j q hq => ?_, K.slots⟩, hF, fun target h => stp target ?_⟩
  · obtain ⟨ty, L, ht, hv⟩ := K.2.2.1 q (List.mem_of_getElem? hq)
    obtain ⟨c1, k1, cf, kf, i1, f, a1, a2, a3, a4, a5, a6, -⟩ := L.spec
    cases hfc.symm.trans a1
    cases z1.symm.trans a2
    exact ⟨_, cf, kf, i1, f, G, a3, a4, by simp, rfl, a5, by rw [hv, up_default]; simp [ei, a6, (State.fieldFound?_type a3 ht).2]⟩
  · have : T.heap.size = n + N := by rw [hH.1, hN]
    rw [this]; exact h
theorem W.newarray {aty : ArrayType} {N cnt cap : Nat} {z : Int32} (hd : D M pc (.newarray aty) 2 pc') (w : (Cond.arrayClass (newarray.typeOf aty)).before a0 Z = true) (hz : ¬ z < 0 ∧ z.toNatClampNeg = cnt) (hN : H.length = N) (hcap : cnt ≤ cap) (hb8 : cap * 8 ≤ 536870912) (hc : ce + 1 ≤ M.2.2.2.2.cells) (hl : sl + cap ≤ M.2.2.2.2.slots)
    (kk : WB b l Z n M pc' ls (.ref N :: st) (H ++ [.inr (newarray.typeOf aty, List.replicate cnt (defaultValue (newarray.typeOf aty)))]) (ce + 1) (sl + cap) Q) : WB b l Z n M pc ls (.int z :: st) H ce sl Q := by
  obtain ⟨hd, rfl⟩ := hd
  obtain ⟨hz0, rfl⟩ := hz
  refine W.step (fun p e s m args below meth c Cx T locs X hH hF => ?_) kk
  have hcb : componentBytes (newarray.typeOf aty) ≤ 8 := by cases aty <;> decide
  obtain ⟨cA, kA, comp, h1, h2, h3, X', stp⟩ := X.newarrayPrim Cx.1 (mvA Cx.2.1 w) (g := mkF m pc (loc n ls) (stk n (.int z :: st))) rfl (hb Cx.2.2.2.1 hd) rfl hz0 (Nat.le_trans (Nat.mul_le_mul hcap hcb) hb8) hc (Nat.le_trans (Nat.add_le_add_left hcap _) hl)
  obtain ⟨E, S, G⟩ := ext_push T.heap { cls := cA, slots := Array.replicate z.toNatClampNeg (defaultValue (newarray.typeOf aty)), vm := .none }
  have hfc := h1
  rw [Cx.2.1.alike.findClass] at hfc
  obtain ⟨kZ, z1, -⟩ := Vm.findClass_spec hfc
  obtain ⟨k', z2, z3⟩ := Cx.2.1.alike.2.2 _ _ z1
  cases h2.symm.trans z2
  refine ⟨_, locs, X'.more (Nat.le_refl _) (Nat.add_le_add_left hcap _), hH.push E S ⟨_, ⟨G, ⟨by simp, kZ, z1, comp, by rw [← h3, z3]⟩, by simp⟩, ?_⟩, hF, fun target h => stp target ?_⟩
  · simp [up_default]
  · have : T.heap.size = n + N := by rw [hH.1, hN]
    rw [this]; exact h
/-! returns -/
theorem W.fin {v : Option Value} (hv : M.2.2.2.1 = none → v = none) (hc : ce ≤ M.2.2.2.2.cells) (hl : sl ≤ M.2.2.2.2.slots)
    (go : ∀ (p : Program) (e : Env) (s : State) (m : MethodId) (args : Array Value) (below : List Frame) (meth : Method) (c : Code), Ctx Z M p s m meth c → ∀ (T : State) (locs : List Loc), Stand p l e M.2.2.2.2 s m args below meth c T locs ce sl →
      ∀ fs : List Frame, (∀ (f : JFrame) (acts : List Action), f.method = m → f.locked = none → f.entered = [] → (doReturn e (T.setTop f) acts (v.map (up n))).1 = T.setFrames fs) → Steps p.tables e below (T.setTop (mkF m pc (loc n ls) (stk n st))) (T.setFrames fs))
    (q : Q v H) : WB b l Z n M pc ls st H ce sl Q := fun p e s m args below meth c C T locs X hH hF => by
  obtain ⟨fs, hr, hrun, hended, hW, hsame⟩ := X.leave (v := v.map (up n)) (fun h => by rw [hv (C.2.2.2.2.2.1.symm.trans h)]; rfl) C.2.2.2.2.2.2.1
  exact ⟨_, v, locs, H, go p e s m args below meth c C T locs X fs hr, hrun, hended, q, hH, hF, EndR.of ⟨⟨_, rfl⟩, hW, hsame.mono hc hl⟩⟩
theorem W.leave (hd : D M pc .return_ 1 pc') (hr : M.2.2.2.1 = none) (hc : ce ≤ M.2.2.2.2.cells) (hl : sl ≤ M.2.2.2.2.slots) (q : Q none H) : WB b l Z n M pc ls [] H ce sl Q :=
  W.fin (v := none) (fun _ => rfl) hc hl (fun p e s m args below meth c C T locs X fs h => X.returnOut C.1 (C.2.2.2.2.2.1.trans hr) (hb C.2.2.2.1 hd.1) h) q
theorem W.ireturn {x : Int32} (hd : D M pc .ireturn 1 pc') (hr : M.2.2.2.1 = some .int) (hc : ce ≤ M.2.2.2.2.cells) (hl : sl ≤ M.2.2.2.2.slots) (q : Q (some (.int x)) H) : WB b l Z n M pc ls (.int x :: st) H ce sl Q :=
  W.fin (v := some (.int x)) (fun h => by rw [hr] at h; cases h) hc hl (fun p e s m args below meth c C T locs X fs h => retOut X C.1 (t := .int) (w := .int x) (i := .ireturn) (C.2.2.2.2.2.1.trans hr) rfl (Or.inl ⟨rfl, Or.inl rfl, _, rfl⟩) (hb C.2.2.2.1 hd.1) h) q
theorem W.lreturn {x : Int64} (hd : D M pc .lreturn 1 pc') (hr : M.2.2.2.1 = some .long) (hc : ce ≤ M.2.2.2.2.cells) (hl : sl ≤ M.2.2.2.2.slots) (q : Q (some (.long x)) H) : WB b l Z n M pc ls (.long x :: st) H ce sl Q :=
  W.fin (v := some (.long x)) (fun h => by rw [hr] at h; cases h) hc hl (fun p e s m args below meth c C T locs X fs h => retOut X C.1 (t := .long) (w := .long x) (i := .lreturn) (C.2.2.2.2.2.1.trans hr) rfl (Or.inr (Or.inl ⟨rfl, rfl, _, rfl⟩)) (hb C.2.2.2.1 hd.1) h) q
/-- a boolean, byte, char or short: what is left of the int -/
theorem W.nreturn {x : Int32} (t : FieldType) (hd : D M pc .ireturn 1 pc') (hr : M.2.2.2.1 = some t) (ht : t = .boolean ∨ t = .byte ∨ t = .char ∨ t = .short) (hc : ce ≤ M.2.2.2.2.cells) (hl : sl ≤ M.2.2.2.2.slots) (q : Q (some (.int (nar t x))) H) : WB b l Z n M pc ls (.int x :: st) H ce sl Q :=
  W.fin (v := some (.int (nar t x))) (fun h => by rw [hr] at h; cases h) hc hl (fun p e s m args below meth c C T locs X fs h => retN X C.1 (C.2.2.2.2.2.1.trans hr) ht (hb C.2.2.2.1 hd.1) h) q
theorem W.areturn {v : Value} {t : FieldType} (hd : D M pc .areturn 1 pc') (hr : M.2.2.2.1 = some t) (ht : t.isReference = true) (hv : rfn v = true) (hc : ce ≤ M.2.2.2.2.cells) (hl : sl ≤ M.2.2.2.2.slots) (q : Q (some v) H) : WB b l Z n M pc ls (v :: st) H ce sl Q :=
  W.fin (v := some v) (fun h => by rw [hr] at h; cases h) hc hl (fun p e s m args below meth c C T locs X fs h => retOut X C.1 (t := t) (w := up n v) (i := .areturn) (C.2.2.2.2.2.1.trans hr) (by cases v <;> simp [rfn] at hv <;> cases t <;> simp_all [FieldType.isReference, narrow, up]) (Or.inr (Or.inr (Or.inr (Or.inr ⟨rfl, ht, up_rfn n hv⟩)))) (hb C.2.2.2.1 hd.1) h) q
/-! calls -/
def entryL (as : List Value) (k : Nat) : List Slot := Jvm.Sym.laidSlots as ++ List.replicate (k - (Jvm.Sym.laidSlots as).length) .unset
theorem laid_up (n : Nat) : ∀ as : List Value, Jvm.Sym.laidSlots (as.map (up n)) = (Jvm.Sym.laidSlots as).map (upS n)
  | [] => rfl
  | v :: as => by
    have ih := laid_up n as
    simp only [List.map_cons, Jvm.Sym.laidSlots, up_cat]
    split <;> simp [ih, upS]
theorem entry_up (n : Nat) (as : List Value) (k : Nat) (m : MethodId) : entryFrame m (as.map (up n)).toArray k = mkF m 0 (loc n (entryL as k)) [] := by
  have : argsToLocals (as.map (up n)).toArray k = loc n (entryL as k) := Array.toList_inj.mp (by
    rw [Jvm.Sym.argsToLocals_toList]
    simp [entryL, laid_up, loc, upS])
  unfold entryFrame
  rw [this]
theorem W.met {as : List Value} (hW : WB b l Z n M 0 (entryL as M.2.2.1) [] H 0 0 Q) (pn : plainFor M.1 = true) {h : Heap} (hH : HR Z n h H) (ws : List Jvm.Cond) :
    MetFree l M.1 (head1 (Cond.code M.1 M.2.1 M.2.2.1 M.2.2.2.1 :: ws) M.2.2.2.2) (fun a U => a = (as.map (up n)).toArray ∧ Z.Warmed39 U.vm ∧ U.heap = h) (fun _ _ _ _ _ => True)
      (fun _ U o U' => ∃ v L, o = .returned v ∧ (∃ v0 H', v = v0.map (up n) ∧ Q v0 H' ∧ HR Z n U'.heap H' ∧ Fr n L) ∧ EndR b U o U' L M.2.2.2.2.cells M.2.2.2.2.slots) := by
  refine MetFree.of_bodySF pn hisR ?_
  intro p e s m args below meth c s₁ Bd hml hP hK
  obtain ⟨rfl, hZ, hh⟩ := hP
  have X0 : Stand p l e M.2.2.2.2 s m _ below meth c s₁ [] 0 0 := Stand.of_body Bd
  have e0 : s₁.heap = h := by rw [← hh, Bd.state]; rfl
  obtain ⟨s₂, v, L, H', h1, h2, h3, h4, h5, h6, h7⟩ := hW p e s m _ below meth c ⟨Bd.exec, hZ, findClass_of_methodNamed Bd.named, Bd.bytes, hml, Bd.returns, Bd.notSynchronized, (name_of_methodNamed Bd.named Bd.method).1⟩ s₁ [] X0 (e0 ▸ hH) (Fr.nil n)
  exact ⟨s₂, _, castTop (entry_up n as _ m) h1, h2, h3, _, L, rfl, ⟨v, H', rfl, h4, h5, h6⟩, h7⟩
def RetQ (Z : State) (n : Nat) (Q : Option Value → AHeap → Prop) (v : Option Value) (h2 : Heap) (L : List Loc) : Prop := ∃ v0 H', v = v0.map (up n) ∧ Q v0 H' ∧ HR Z n h2 H' ∧ Fr n L
theorem W.metF {as : List Value} (hW : W l Z n M 0 (entryL as M.2.2.1) [] H 0 0 Q) (pn : plainFor M.1 = true) {h : Heap} (hH : HR Z n h H) (ws : List Jvm.Cond) :
    MetFree l M.1 (head1 (Cond.code M.1 M.2.1 M.2.2.1 M.2.2.2.1 :: ws) M.2.2.2.2) (fun a U => a = (as.map (up n)).toArray ∧ Z.Warmed39 U.vm ∧ U.heap = h) (fun _ _ _ _ _ => True)
      (fun _ U o U' => ∃ v L, o = .returned v ∧ RetQ Z n Q v U'.heap L ∧ FrameEnd U o U' L M.2.2.2.2.cells M.2.2.2.2.slots) := W.met hW pn hH ws
/-- what every call asks of the callee's own words -/
def OkM (a0 : Array Value) (Z : State) (M : Meth) (k : Nat) : Prop :=
  (Cond.code M.1 M.2.1 M.2.2.1 M.2.2.2.1).before a0 Z = true ∧ (Cond.initialized M.1.cls).before a0 Z = true ∧ plainFor M.1 = true ∧ (M.1.cls ≠ "java/lang/invoke/MethodHandle" ∧ M.1.cls ≠ "java/lang/invoke/VarHandle") ∧ ∀ sig, parseMethodDescriptor M.1.desc = some sig → k = sig.parameters.length
theorem arity {d : String} {ps : List FieldType} {r : Option FieldType} {k : Nat} (hd : parseMethodDescriptor d = some ⟨ps, r⟩) (hl : k = ps.length) : ∀ sig, parseMethodDescriptor d = some sig → k = sig.parameters.length := fun sig h => by
  cases hd.symm.trans h; exact hl
def wt (st : List Value) : Nat := (st.map fun v => v.category).sum
theorem wt_up (n : Nat) : ∀ st : List Value, ((stk n st).map fun v => v.category).sum = wt st
  | [] => rfl
  | v :: st => by
    have ih := wt_up n st
    simp only [stk, wt, List.map_cons, List.sum_cons, up_cat] at ih ⊢
    rw [ih]
/-- the callee's frames, words, cells and slots fit -/
def fitsRoom (M M' : Meth) (rest : List Value) (ce sl : Nat) : Bool :=
  decide (M'.2.2.2.2.frames + 1 ≤ M.2.2.2.2.frames) && decide (wt rest + (M'.2.2.1 + 11) + M'.2.2.2.2.locals ≤ M.2.2.2.2.locals) && decide (ce + M'.2.2.2.2.cells ≤ M.2.2.2.2.cells) && decide (sl + M'.2.2.2.2.slots ≤ M.2.2.2.2.slots)
theorem fits_ {M M' : Meth} {rest : List Value} {ce sl : Nat} (h : fitsRoom M M' rest ce sl = true) : M'.2.2.2.2.frames + 1 ≤ M.2.2.2.2.frames ∧ wt rest + (M'.2.2.1 + 11) + M'.2.2.2.2.locals ≤ M.2.2.2.2.locals ∧ ce + M'.2.2.2.2.cells ≤ M.2.2.2.2.cells ∧ sl + M'.2.2.2.2.slots ≤ M.2.2.2.2.slots := by
  simp only [fitsRoom, Bool.and_eq_true, decide_eq_true_eq] at h
  exact ⟨h.1.1.1, h.1.1.2, h.1.2, h.2⟩
theorem size_loc (n : Nat) (ls : List Slot) : (loc n ls).size = ls.length := by simp [loc]
theorem W.calls {M' : Meth} {i : Nat} {as rest : List Value} {Qc : Option Value → AHeap → Prop} (hd : D M pc (.invokestatic i) 3 pc') (w : (Cond.methodLink M.1.cls i M'.1).before a0 Z = true) (ws : (Cond.static M'.1).before a0 Z = true) (K : OkM a0 Z M' as.length) (hs : st = as.reverse ++ rest) (hz : ls.length = M.2.2.1) (hf : fitsRoom M M' rest ce sl = true)
    (hM : W l Z n M' 0 (entryL as M'.2.2.1) [] H 0 0 Qc) (kk : ∀ v H', Qc v H' → WB b l Z n M pc' ls (v.toList ++ rest) H' (ce + M'.2.2.2.2.cells) (sl + M'.2.2.2.2.slots) Q) : WB b l Z n M pc ls st H ce sl Q := by
  obtain ⟨hd, rfl⟩ := hd
  subst hs
  intro p e s m args below meth c C T locs X hH hF
  obtain ⟨f1, f2, f3, f4⟩ := fits_ hf
  obtain ⟨_, _, ⟨T', L', c', s'⟩, -, X', ⟨Lc, ⟨v0, H', hv, q1, q2, q3⟩, l1, l2, l3⟩, stp⟩ := Jvm.LawKit.callS X C.1 (y := M'.1) C.2.2.1 (mvT C.2.1 w) (mvT C.2.1 ws) (mvT C.2.1 K.2.1) (mvT C.2.1 K.1) K.2.2.2.1 (backOf (Q := RetQ Z n Qc) (W := wt rest) (W.metF hM K.2.2.1 hH []) C.2.1 K.1 K.2.1 f1 f2) (g := mkF m pc (loc n ls) (stk n (as.reverse ++ rest))) rfl
    ((size_loc n ls).trans (hz.trans C.2.2.2.2.1.symm)) (argsL := as.map (up n)) (rest := stk n rest) (fun sig h => by rw [List.length_map]; exact K.2.2.2.2 sig h) (by simp [stk, List.map_append, List.map_reverse]) (by rw [wt_up]; exact Nat.le_of_eq (Nat.zero_add _)) (hb C.2.2.2.1 hd) (fun _ _ => ⟨rfl, rfl, f3, f4⟩)
  dsimp only [Pt.U, Pt.locs, Pt.cells, Pt.slots] at X' l1 l2 l3 stp q2
  subst l1 l2 l3 hv
  obtain ⟨s₂, v, L, H'', g1, g2⟩ := kk v0 H' q1 p e s m args below meth c C T' _ X' q2 (Fr.app hF q3)
  refine ⟨s₂, v, L, H'', stp _ ?_, g2⟩
  have : stk n (v0.toList ++ rest) = (v0.map (up n)).toList ++ stk n rest := by cases v0 <;> simp [stk]
  rw [this] at g1; exact g1
theorem W.callv {M' : Meth} {i k : Nat} {C : String} {fs : List (Key × Value)} {as rest : List Value} {Qc : Option Value → AHeap → Prop} (hd : D M pc (.invokevirtual i) 3 pc') (w : (Cond.methodLink M.1.cls i M'.1).before a0 Z = true) (wd : (Cond.declares M'.1).before a0 Z = true) (wi : (Cond.instanceMethod M'.1).before a0 Z = true) (wsel : (Cond.selects C M'.1 M'.1).before a0 Z = true) (K : OkM a0 Z M' as.length) (hk : H[k]? = some (.inl (C, fs))) (hs : st = as.reverse ++ .ref k :: rest) (hz : ls.length = M.2.2.1) (hf : fitsRoom M M' rest ce sl = true)
    (hM : W l Z n M' 0 (entryL (.ref k :: as) M'.2.2.1) [] H 0 0 Qc) (kk : ∀ v H', Qc v H' → WB b l Z n M pc' ls (v.toList ++ rest) H' (ce + M'.2.2.2.2.cells) (sl + M'.2.2.2.2.slots) Q) : WB b l Z n M pc ls st H ce sl Q := by
  obtain ⟨hd, rfl⟩ := hd
  subst hs
  intro p e s m args below meth c Cx T locs X hH hF
  obtain ⟨f1, f2, f3, f4⟩ := fits_ hf
  obtain ⟨cq, kq, qa, qb, qc⟩ := isOf (T := T) Cx.2.1 rfl (hH.2 k _ hk rfl).1
  obtain ⟨_, _, ⟨T', L', c', s'⟩, -, X', ⟨Lc, ⟨v0, H', hv, q1, q2, q3⟩, l1, l2, l3⟩, stp⟩ := X.virtualBack Cx.1 (y := M'.1) (z := M'.1) Cx.2.2.1 (mvT Cx.2.1 w) (mvT Cx.2.1 wd) (notFace_of_selects (args := #[]) (mvT Cx.2.1 wsel)) (mvT Cx.2.1 wsel) (mvT Cx.2.1 wi) K.2.2.2.1 (backOf (Q := RetQ Z n Qc) (W := wt rest) (W.metF hM K.2.2.1 hH []) Cx.2.1 K.1 K.2.1 f1 f2) qa qc (g := mkF m pc (loc n ls) (stk n (as.reverse ++ .ref k :: rest))) rfl
    ((size_loc n ls).trans (hz.trans Cx.2.2.2.2.1.symm)) (Steps.refl _) (argsL := as.map (up n)) (rest := stk n rest) (fun sig h => by rw [List.length_map]; exact K.2.2.2.2 sig h) (by simp [stk, List.map_append, List.map_reverse, up]) (by rw [wt_up]; exact Nat.le_of_eq (Nat.zero_add _)) (hb Cx.2.2.2.1 hd) (fun _ _ => ⟨rfl, rfl, f3, f4⟩)
  dsimp only [Pt.U, Pt.locs, Pt.cells, Pt.slots] at X' l1 l2 l3 stp q2
  subst l1 l2 l3 hv
  obtain ⟨s₂, v, L, H'', g1, g2⟩ := kk v0 H' q1 p e s m args below meth c Cx T' _ X' q2 (Fr.app hF q3)
  refine ⟨s₂, v, L, H'', stp.trans ?_, g2⟩
  have : stk n (v0.toList ++ rest) = (v0.map (up n)).toList ++ stk n rest := by cases v0 <;> simp [stk]
  rw [this] at g1; exact g1
theorem W.callp {M' : Meth} {i k kk0 : Nat} {fs : List (Key × Value)} {as rest : List Value} {Qc : Option Value → AHeap → Prop} (hd : D M pc (.invokevirtual i) 3 pc') (w : (Cond.methodLink M.1.cls i M'.1).before a0 Z = true) (wi : (Cond.instanceMethod M'.1).before a0 Z = true) (wp : (Cond.privateMethod M'.1).before a0 Z = true) (wk : (Cond.instantiable M'.1.cls kk0).before a0 Z = true) (K : OkM a0 Z M' as.length) (hk : H[k]? = some (.inl (M'.1.cls, fs))) (hs : st = as.reverse ++ .ref k :: rest) (hz : ls.length = M.2.2.1) (hf : fitsRoom M M' rest ce sl = true)
    (hM : W l Z n M' 0 (entryL (.ref k :: as) M'.2.2.1) [] H 0 0 Qc) (kk : ∀ v H', Qc v H' → WB b l Z n M pc' ls (v.toList ++ rest) H' (ce + M'.2.2.2.2.cells) (sl + M'.2.2.2.2.slots) Q) : WB b l Z n M pc ls st H ce sl Q := by
  obtain ⟨hd, rfl⟩ := hd
  subst hs
  intro p e s m args below meth c Cx T locs X hH hF
  obtain ⟨f1, f2, f3, f4⟩ := fits_ hf
  obtain ⟨cell, hc1, hc2⟩ := (hH.2 k _ hk rfl).1.cell
  have hpriv : s.PrivateAt M'.1 := Cond.privateMethod_at (mvP Cx.2.1 wp (args := #[]))
  obtain ⟨c2, k2, i1, i2, i3, i4, -⟩ := Cond.instantiable_spec (mvT (args := args) Cx.2.1 wk)
  have hni : k2.isInterface = false := by simp only [Bool.or_eq_false_iff] at i4; exact i4.1
  have hsel : (Cond.selects M'.1.cls M'.1 M'.1).before args s = true := selects_self_of_private i1 i2 hni hpriv (mvT Cx.2.1 wi) K.2.2.2.1
  obtain ⟨_, _, ⟨T', L', c', s'⟩, -, X', ⟨Lc, ⟨v0, H', hv, q1, q2, q3⟩, l1, l2, l3⟩, stp⟩ := X.privateBack Cx.1 (y := M'.1) Cx.2.2.1 (mvT Cx.2.1 w) (mvT Cx.2.1 wi) hsel hpriv (mvT Cx.2.1 K.1) K.2.2.2.1 (backOf (Q := RetQ Z n Qc) (W := wt rest) (W.metF hM K.2.2.1 hH []) Cx.2.1 K.1 K.2.1 f1 f2) (g := mkF m pc (loc n ls) (stk n (as.reverse ++ .ref k :: rest))) rfl
    ((size_loc n ls).trans (hz.trans Cx.2.2.2.2.1.symm)) (Steps.refl _) (a := n + k) hc1 hc2 (argsL := as.map (up n)) (rest := stk n rest) (fun sig h => by rw [List.length_map]; exact K.2.2.2.2 sig h) (by simp [stk, List.map_append, List.map_reverse, up]) (by rw [wt_up]; exact Nat.le_of_eq (Nat.zero_add _)) (hb Cx.2.2.2.1 hd) (fun _ _ => ⟨rfl, rfl, f3, f4⟩)
  dsimp only [Pt.U, Pt.locs, Pt.cells, Pt.slots] at X' l1 l2 l3 stp q2
  subst l1 l2 l3 hv
  obtain ⟨s₂, v, L, H'', g1, g2⟩ := kk v0 H' q1 p e s m args below meth c Cx T' _ X' q2 (Fr.app hF q3)
  refine ⟨s₂, v, L, H'', stp.trans ?_, g2⟩
  have : stk n (v0.toList ++ rest) = (v0.map (up n)).toList ++ stk n rest := by cases v0 <;> simp [stk]
  rw [this] at g1; exact g1
theorem W.init {M' : Meth} {i k : Nat} {as rest : List Value} {Qc : Option Value → AHeap → Prop} (hd : D M pc (.invokespecial i) 3 pc') (hnm : M'.1.name = "<init>") (hrt : M'.2.2.2.1 = none) (w : (Cond.methodLink M.1.cls i M'.1).before a0 Z = true) (wi : (Cond.instanceMethod M'.1).before a0 Z = true) (K : OkM a0 Z M' as.length) (hs : st = as.reverse ++ .ref k :: rest) (hz : ls.length = M.2.2.1) (hf : fitsRoom M M' rest ce sl = true)
    (hM : W l Z n M' 0 (entryL (.ref k :: as) M'.2.2.1) [] H 0 0 Qc) (kk : ∀ v H', Qc v H' → WB b l Z n M pc' ls (v.toList ++ rest) H' (ce + M'.2.2.2.2.cells) (sl + M'.2.2.2.2.slots) Q) : WB b l Z n M pc ls st H ce sl Q := by
  obtain ⟨hd, rfl⟩ := hd
  subst hs
  intro p e s m args below meth c Cx T locs X hH hF
  obtain ⟨f1, f2, f3, f4⟩ := fits_ hf
  have wc := K.1
  rw [hrt] at wc
  obtain ⟨_, _, ⟨T', L', c', s'⟩, -, X', ⟨Lc, ⟨v0, H', hv, q1, q2, q3⟩, l1, l2, l3⟩, stp⟩ := X.specialBack Cx.1 (y := M'.1) hnm Cx.2.2.1 (mvT Cx.2.1 w) (mvT Cx.2.1 wi) (mvT Cx.2.1 wc) K.2.2.2.1 (backOf (Q := RetQ Z n Qc) (W := wt rest) (W.metF hM K.2.2.1 hH []) Cx.2.1 K.1 K.2.1 f1 f2) (g := mkF m pc (loc n ls) (stk n (as.reverse ++ .ref k :: rest))) rfl
    ((size_loc n ls).trans (hz.trans Cx.2.2.2.2.1.symm)) (Steps.refl _) (a := n + k) (argsL := as.map (up n)) (rest := stk n rest) (fun sig h => by rw [List.length_map]; exact K.2.2.2.2 sig h) (by simp [stk, List.map_append, List.map_reverse, up]) (by rw [wt_up]; exact Nat.le_of_eq (Nat.zero_add _)) (hb Cx.2.2.2.1 hd) (fun _ _ => ⟨rfl, rfl, f3, f4⟩)
  dsimp only [Pt.U, Pt.locs, Pt.cells, Pt.slots] at X' l1 l2 l3 stp q2
  subst l1 l2 l3 hv
  obtain ⟨s₂, v, L, H'', g1, g2⟩ := kk v0 H' q1 p e s m args below meth c Cx T' _ X' q2 (Fr.app hF q3)
  refine ⟨s₂, v, L, H'', stp.trans ?_, g2⟩
  have : stk n (v0.toList ++ rest) = (v0.map (up n)).toList ++ stk n rest := by cases v0 <;> simp [stk]
  rw [this] at g1; exact g1
theorem W.initO {i k : Nat} {rest : List Value} (hd : D M pc (.invokespecial i) 3 pc') (w1 : (Cond.methodLink M.1.cls i Lib.objectInit).before a0 Z = true) (w2 : (Cond.instanceMethod Lib.objectInit).before a0 Z = true) (w3 : (Cond.code Lib.objectInit ⟨#[0xb1]⟩ 1 none).before a0 Z = true) (hz : ls.length = M.2.2.1) (hf : decide (1 ≤ M.2.2.2.2.frames) && decide (wt rest + 12 ≤ M.2.2.2.2.locals) = true)
    (kk : WB b l Z n M pc' ls rest H ce sl Q) : WB b l Z n M pc ls (.ref k :: rest) H ce sl Q := by
  obtain ⟨hd, rfl⟩ := hd
  simp only [Bool.and_eq_true, decide_eq_true_eq] at hf
  refine W.step (fun p e s m args below meth c Cx T locs X hH hF => ?_) kk
  obtain ⟨T', X', e', stp⟩ := RoadKit.initO X Cx.1 Cx.2.1 Cx.2.2.1 w1 w2 w3 rfl (g := mkF m pc (loc n ls) (stk n (.ref k :: rest))) rfl ((size_loc n ls).trans (hz.trans Cx.2.2.2.2.1.symm)) rfl (hb Cx.2.2.2.1 hd) hf.1 (W := wt rest) (by rw [wt_up]; exact Nat.le_of_eq (Nat.zero_add _)) hf.2
  exact ⟨T', locs, X', e' ▸ hH, hF, stp⟩
/-- from W of the whole method to the run's end, over the heap at the start -/
theorem W.start {as : List Value} (hW : WB b l Z Z.heap.size M 0 (entryL as M.2.2.1) [] [] 0 0 Q) (pn : plainName M.1.cls = true) (ws : List Jvm.Cond) :
    MetFree l M.1 (head1 (Cond.code M.1 M.2.1 M.2.2.1 M.2.2.2.1 :: ws) M.2.2.2.2) (fun a U => a = (as.map (up Z.heap.size)).toArray ∧ Z.Warmed39 U.vm ∧ U.heap = Z.heap) (fun _ _ _ _ _ => True)
      (fun _ U o U' => ∃ v L, o = .returned v ∧ (∃ v0 H', v = v0.map (up Z.heap.size) ∧ Q v0 H' ∧ HR Z Z.heap.size U'.heap H' ∧ Fr Z.heap.size L) ∧ EndR b U o U' L M.2.2.2.2.cells M.2.2.2.2.slots) :=
  W.met hW (plainFor_of_name pn) ⟨rfl, fun k o h _ => by cases h⟩ ws

/-- what it returns, and the heap it leaves -/
def Is (v : Option Value) (H1 : AHeap) : Option Value → AHeap → Prop := fun v' H' => v' = v ∧ H' = H1
theorem W.callsV {M' : Meth} {i : Nat} {as rest : List Value} {u : Value} {H1 : AHeap} (hd : D M pc (.invokestatic i) 3 pc') (w : (Cond.methodLink M.1.cls i M'.1).before a0 Z = true) (ws : (Cond.static M'.1).before a0 Z = true) (hM : W l Z n M' 0 (entryL as M'.2.2.1) [] H 0 0 (Is (some u) H1)) (K : OkM a0 Z M' as.length) (hs : st = as.reverse ++ rest) (hz : ls.length = M.2.2.1) (hf : fitsRoom M M' rest ce sl = true)
    (kk : WB b l Z n M pc' ls (u :: rest) H1 (ce + M'.2.2.2.2.cells) (sl + M'.2.2.2.2.slots) Q) : WB b l Z n M pc ls st H ce sl Q := W.calls hd w ws K hs hz hf hM fun v H' q => by obtain ⟨rfl, rfl⟩ := q; exact kk
theorem W.callsN {M' : Meth} {i : Nat} {as rest : List Value} {H1 : AHeap} (hd : D M pc (.invokestatic i) 3 pc') (w : (Cond.methodLink M.1.cls i M'.1).before a0 Z = true) (ws : (Cond.static M'.1).before a0 Z = true) (hM : W l Z n M' 0 (entryL as M'.2.2.1) [] H 0 0 (Is none H1)) (K : OkM a0 Z M' as.length) (hs : st = as.reverse ++ rest) (hz : ls.length = M.2.2.1) (hf : fitsRoom M M' rest ce sl = true)
    (kk : WB b l Z n M pc' ls rest H1 (ce + M'.2.2.2.2.cells) (sl + M'.2.2.2.2.slots) Q) : WB b l Z n M pc ls st H ce sl Q := W.calls hd w ws K hs hz hf hM fun v H' q => by obtain ⟨rfl, rfl⟩ := q; exact kk
theorem W.callvV {M' : Meth} {i k : Nat} {C : String} {fs : List (Key × Value)} {as rest : List Value} {u : Value} {H1 : AHeap} (hd : D M pc (.invokevirtual i) 3 pc') (w : (Cond.methodLink M.1.cls i M'.1).before a0 Z = true) (wd : (Cond.declares M'.1).before a0 Z = true) (wi : (Cond.instanceMethod M'.1).before a0 Z = true) (wsel : (Cond.selects C M'.1 M'.1).before a0 Z = true) (hM : W l Z n M' 0 (entryL (.ref k :: as) M'.2.2.1) [] H 0 0 (Is (some u) H1)) (K : OkM a0 Z M' as.length) (hk : H[k]? = some (.inl (C, fs))) (hs : st = as.reverse ++ .ref k :: rest) (hz : ls.length = M.2.2.1) (hf : fitsRoom M M' rest ce sl = true)
    (kk : WB b l Z n M pc' ls (u :: rest) H1 (ce + M'.2.2.2.2.cells) (sl + M'.2.2.2.2.slots) Q) : WB b l Z n M pc ls st H ce sl Q := W.callv hd w wd wi wsel K hk hs hz hf hM fun v H' q => by obtain ⟨rfl, rfl⟩ := q; exact kk
theorem W.callvN {M' : Meth} {i k : Nat} {C : String} {fs : List (Key × Value)} {as rest : List Value} {H1 : AHeap} (hd : D M pc (.invokevirtual i) 3 pc') (w : (Cond.methodLink M.1.cls i M'.1).before a0 Z = true) (wd : (Cond.declares M'.1).before a0 Z = true) (wi : (Cond.instanceMethod M'.1).before a0 Z = true) (wsel : (Cond.selects C M'.1 M'.1).before a0 Z = true) (hM : W l Z n M' 0 (entryL (.ref k :: as) M'.2.2.1) [] H 0 0 (Is none H1)) (K : OkM a0 Z M' as.length) (hk : H[k]? = some (.inl (C, fs))) (hs : st = as.reverse ++ .ref k :: rest) (hz : ls.length = M.2.2.1) (hf : fitsRoom M M' rest ce sl = true)
    (kk : WB b l Z n M pc' ls rest H1 (ce + M'.2.2.2.2.cells) (sl + M'.2.2.2.2.slots) Q) : WB b l Z n M pc ls st H ce sl Q := W.callv hd w wd wi wsel K hk hs hz hf hM fun v H' q => by obtain ⟨rfl, rfl⟩ := q; exact kk
theorem W.callpV {M' : Meth} {i k kk0 : Nat} {fs : List (Key × Value)} {as rest : List Value} {u : Value} {H1 : AHeap} (hd : D M pc (.invokevirtual i) 3 pc') (w : (Cond.methodLink M.1.cls i M'.1).before a0 Z = true) (wi : (Cond.instanceMethod M'.1).before a0 Z = true) (wp : (Cond.privateMethod M'.1).before a0 Z = true) (wk : (Cond.instantiable M'.1.cls kk0).before a0 Z = true) (hM : W l Z n M' 0 (entryL (.ref k :: as) M'.2.2.1) [] H 0 0 (Is (some u) H1)) (K : OkM a0 Z M' as.length) (hk : H[k]? = some (.inl (M'.1.cls, fs))) (hs : st = as.reverse ++ .ref k :: rest) (hz : ls.length = M.2.2.1) (hf : fitsRoom M M' rest ce sl = true)
    (kk : WB b l Z n M pc' ls (u :: rest) H1 (ce + M'.2.2.2.2.cells) (sl + M'.2.2.2.2.slots) Q) : WB b l Z n M pc ls st H ce sl Q := W.callp hd w wi wp wk K hk hs hz hf hM fun v H' q => by obtain ⟨rfl, rfl⟩ := q; exact kk
theorem W.callpN {M' : Meth} {i k kk0 : Nat} {fs : List (Key × Value)} {as rest : List Value} {H1 : AHeap} (hd : D M pc (.invokevirtual i) 3 pc') (w : (Cond.methodLink M.1.cls i M'.1).before a0 Z = true) (wi : (Cond.instanceMethod M'.1).before a0 Z = true) (wp : (Cond.privateMethod M'.1).before a0 Z = true) (wk : (Cond.instantiable M'.1.cls kk0).before a0 Z = true) (hM : W l Z n M' 0 (entryL (.ref k :: as) M'.2.2.1) [] H 0 0 (Is none H1)) (K : OkM a0 Z M' as.length) (hk : H[k]? = some (.inl (M'.1.cls, fs))) (hs : st = as.reverse ++ .ref k :: rest) (hz : ls.length = M.2.2.1) (hf : fitsRoom M M' rest ce sl = true)
    (kk : WB b l Z n M pc' ls rest H1 (ce + M'.2.2.2.2.cells) (sl + M'.2.2.2.2.slots) Q) : WB b l Z n M pc ls st H ce sl Q := W.callp hd w wi wp wk K hk hs hz hf hM fun v H' q => by obtain ⟨rfl, rfl⟩ := q; exact kk
theorem W.initN {M' : Meth} {i k : Nat} {as rest : List Value} {H1 : AHeap} (hd : D M pc (.invokespecial i) 3 pc') (hnm : M'.1.name = "<init>") (hrt : M'.2.2.2.1 = none) (w : (Cond.methodLink M.1.cls i M'.1).before a0 Z = true) (wi : (Cond.instanceMethod M'.1).before a0 Z = true) (hM : W l Z n M' 0 (entryL (.ref k :: as) M'.2.2.1) [] H 0 0 (Is none H1)) (K : OkM a0 Z M' as.length) (hs : st = as.reverse ++ .ref k :: rest) (hz : ls.length = M.2.2.1) (hf : fitsRoom M M' rest ce sl = true)
    (kk : WB b l Z n M pc' ls rest H1 (ce + M'.2.2.2.2.cells) (sl + M'.2.2.2.2.slots) Q) : WB b l Z n M pc ls st H ce sl Q := W.init hd hnm hrt w wi K hs hz hf hM fun v H' q => by obtain ⟨rfl, rfl⟩ := q; exact kk
theorem W.callpX {M' : Meth} {i k kk0 : Nat} {fs : List (Key × Value)} {as rest : List Value} {P : Value → AHeap → Prop} (hd : D M pc (.invokevirtual i) 3 pc') (w : (Cond.methodLink M.1.cls i M'.1).before a0 Z = true) (wi : (Cond.instanceMethod M'.1).before a0 Z = true) (wp : (Cond.privateMethod M'.1).before a0 Z = true) (wk : (Cond.instantiable M'.1.cls kk0).before a0 Z = true) (hM : W l Z n M' 0 (entryL (.ref k :: as) M'.2.2.1) [] H 0 0 (fun v H' => ∃ u, v = some u ∧ P u H')) (K : OkM a0 Z M' as.length) (hk : H[k]? = some (.inl (M'.1.cls, fs))) (hs : st = as.reverse ++ .ref k :: rest) (hz : ls.length = M.2.2.1) (hf : fitsRoom M M' rest ce sl = true)
    (kk : ∀ u H', P u H' → WB b l Z n M pc' ls (u :: rest) H' (ce + M'.2.2.2.2.cells) (sl + M'.2.2.2.2.slots) Q) : WB b l Z n M pc ls st H ce sl Q := W.callp hd w wi wp wk K hk hs hz hf hM fun v H' q => by obtain ⟨u, rfl, q⟩ := q; exact kk u H' q
theorem W.callsX {M' : Meth} {i : Nat} {as rest : List Value} {P : Value → AHeap → Prop} (hd : D M pc (.invokestatic i) 3 pc') (w : (Cond.methodLink M.1.cls i M'.1).before a0 Z = true) (ws : (Cond.static M'.1).before a0 Z = true) (hM : W l Z n M' 0 (entryL as M'.2.2.1) [] H 0 0 (fun v H' => ∃ u, v = some u ∧ P u H')) (K : OkM a0 Z M' as.length) (hs : st = as.reverse ++ rest) (hz : ls.length = M.2.2.1) (hf : fitsRoom M M' rest ce sl = true)
    (kk : ∀ u H', P u H' → WB b l Z n M pc' ls (u :: rest) H' (ce + M'.2.2.2.2.cells) (sl + M'.2.2.2.2.slots) Q) : WB b l Z n M pc ls st H ce sl Q := W.calls hd w ws K hs hz hf hM fun v H' q => by obtain ⟨u, rfl, q⟩ := q; exact kk u H' q
theorem W.callsY {M' : Meth} {i : Nat} {as rest : List Value} {P : AHeap → Prop} (hd : D M pc (.invokestatic i) 3 pc') (w : (Cond.methodLink M.1.cls i M'.1).before a0 Z = true) (ws : (Cond.static M'.1).before a0 Z = true) (hM : W l Z n M' 0 (entryL as M'.2.2.1) [] H 0 0 (fun v H' => v = none ∧ P H')) (K : OkM a0 Z M' as.length) (hs : st = as.reverse ++ rest) (hz : ls.length = M.2.2.1) (hf : fitsRoom M M' rest ce sl = true)
    (kk : ∀ H', P H' → WB b l Z n M pc' ls rest H' (ce + M'.2.2.2.2.cells) (sl + M'.2.2.2.2.slots) Q) : WB b l Z n M pc ls st H ce sl Q := W.calls hd w ws K hs hz hf hM fun v H' q => by obtain ⟨rfl, q⟩ := q; exact kk H' q
theorem W.callvX {M' : Meth} {i k : Nat} {C : String} {fs : List (Key × Value)} {as rest : List Value} {P : Value → AHeap → Prop} (hd : D M pc (.invokevirtual i) 3 pc') (w : (Cond.methodLink M.1.cls i M'.1).before a0 Z = true) (wd : (Cond.declares M'.1).before a0 Z = true) (wi : (Cond.instanceMethod M'.1).before a0 Z = true) (wsel : (Cond.selects C M'.1 M'.1).before a0 Z = true) (hM : W l Z n M' 0 (entryL (.ref k :: as) M'.2.2.1) [] H 0 0 (fun v H' => ∃ u, v = some u ∧ P u H')) (K : OkM a0 Z M' as.length) (hk : H[k]? = some (.inl (C, fs))) (hs : st = as.reverse ++ .ref k :: rest) (hz : ls.length = M.2.2.1) (hf : fitsRoom M M' rest ce sl = true)
    (kk : ∀ u H', P u H' → WB b l Z n M pc' ls (u :: rest) H' (ce + M'.2.2.2.2.cells) (sl + M'.2.2.2.2.slots) Q) : WB b l Z n M pc ls st H ce sl Q := W.callv hd w wd wi wsel K hk hs hz hf hM fun v H' q => by obtain ⟨u, rfl, q⟩ := q; exact kk u H' q
theorem W.callvY {M' : Meth} {i k : Nat} {C : String} {fs : List (Key × Value)} {as rest : List Value} {P : AHeap → Prop} (hd : D M pc (.invokevirtual i) 3 pc') (w : (Cond.methodLink M.1.cls i M'.1).before a0 Z = true) (wd : (Cond.declares M'.1).before a0 Z = true) (wi : (Cond.instanceMethod M'.1).before a0 Z = true) (wsel : (Cond.selects C M'.1 M'.1).before a0 Z = true) (hM : W l Z n M' 0 (entryL (.ref k :: as) M'.2.2.1) [] H 0 0 (fun v H' => v = none ∧ P H')) (K : OkM a0 Z M' as.length) (hk : H[k]? = some (.inl (C, fs))) (hs : st = as.reverse ++ .ref k :: rest) (hz : ls.length = M.2.2.1) (hf : fitsRoom M M' rest ce sl = true)
    (kk : ∀ H', P H' → WB b l Z n M pc' ls rest H' (ce + M'.2.2.2.2.cells) (sl + M'.2.2.2.2.slots) Q) : WB b l Z n M pc ls st H ce sl Q := W.callv hd w wd wi wsel K hk hs hz hf hM fun v H' q => by obtain ⟨rfl, q⟩ := q; exact kk H' q
/-- ldc of a String: behind it the walk goes on over the tables that the constant left -/
theorem W.ldcStr {i nn : Nat} {text : String} (hd : D M pc (.ldc i) 2 pc') (w : (Cond.stringLink M.1.cls i text).before a0 Z = true) (wS : ∀ a ∈ Bundle.stringAtoms, a.before a0 Z = true) (hn : 4 * text.toList.length ≤ nn) (hbig : nn ≤ 536870912) (hc : ce + 2 ≤ M.2.2.2.2.cells) (hl : sl + (nn + 4) ≤ M.2.2.2.2.slots)
    (kk : ∀ (a : Addr) (d : Nat), WB false l Z n M pc' ls (.retAddr a :: st) (H ++ List.replicate d junk) (ce + 2) (sl + (nn + 4)) (fun v H' => Q v H' ∧ H.length + d ≤ H'.length)) : WB true l Z n M pc ls st H ce sl Q := by
  obtain ⟨hd, rfl⟩ := hd
  intro p e s m args below meth c C T locs X hH hF
  have X0 : Stand p l e M.2.2.2.2 (s.setVm s.vm) m args below meth c T locs ce sl := X
  obtain ⟨a, T', h', k1, X', e', E, hS', hk1, hZ', hown', stp⟩ := ldcS (Z := Z) (a0 := a0) X0 C.1 C.2.1 (own := M.1.cls) (text := text) (index := i) C.2.2.1 w wS rfl (k0 := 0) ((State.WarmedH.refl s).since 0) (Nat.zero_le _) (g := mkF m pc (loc n ls) (stk n st)) rfl (hb C.2.2.2.1 hd) hn hbig hc hl
  subst e'
  have hH' : HR Z n T'.heap (H ++ List.replicate (T'.heap.size - T.heap.size) junk) := by
    have h1 := E.1
    refine ⟨by rw [List.length_append, List.length_replicate]; have := hH.1; omega, fun k o hk hJ => ?_⟩
    rw [List.getElem?_append] at hk
    split at hk
    · exact (hH.2 k o hk hJ).ext E
    · have := List.eq_of_mem_replicate (List.mem_of_getElem? hk)
      rw [this] at hJ; cases hJ
  obtain ⟨s₂, v, L, H'', g1, g2, g3, ⟨g4, g4'⟩, g5, g6, g7⟩ := kk a (T'.heap.size - T.heap.size) p e (s.setVm T'.vm) m args below meth c ⟨C.1, hZ', hown', C.2.2.2⟩ T' locs X' hH' hF
  have hsz : k1 ≤ s₂.heap.size := by have h1 := E.1; have h2 := hH.1; have h3 := g5.1; omega
  obtain ⟨q1, q2, q3⟩ := hS'.ended (U := s₂) g7.2.1 hsz g7.2.2
  exact ⟨s₂, v, L, H'', stp _ g1, g2, g3, g4, g5, g6, g7.1, q1, q2, q3⟩
theorem nar_ref (n : Nat) {v : Value} {c : String} (h : v.isRef = true) : narrow (.object c) (up n v) = up n v := by
  cases v <;> first | rfl | (simp [Value.isRef] at h)
theorem fits_ref' (n : Nat) {v : Value} {c : String} (h : v.isRef = true) : fits (.object c) (up n v) = true := by
  cases v <;> first | rfl | (simp [Value.isRef] at h)
theorem rfn_of {v : Value} (h : v.isRef = true) : rfn v = true := by cases v <;> first | rfl | (simp [Value.isRef] at h)
end Rules
/-! bits of ints and longs -/
theorem bx32 {a b : Int32} (h : ∀ i, i < 32 → a.toBitVec.getLsbD i = b.toBitVec.getLsbD i) : a = b := Int32.toBitVec_inj.mp (BitVec.eq_of_getLsbD_eq h)
theorem bx64 {a b : Int64} (h : ∀ i, i < 64 → a.toBitVec.getLsbD i = b.toBitVec.getLsbD i) : a = b := Int64.toBitVec_inj.mp (BitVec.eq_of_getLsbD_eq h)
theorem sm32 : ∀ m : Fin 32, ((BitVec.ofNat 32 m.1).smod 32).toNat = m.1 := by decide
theorem sm64 : ∀ m : Fin 64, ((BitVec.ofNat 64 m.1).smod 64).toNat = m.1 := by decide
theorem amt32 {k : Int32} {m : Nat} (hk : k.toBitVec.toNat = m) (hm : m < 32) : (k.toBitVec.smod 32).toNat = m := by
  have : k.toBitVec = BitVec.ofNat 32 m := BitVec.eq_of_toNat_eq (by rw [hk, BitVec.toNat_ofNat]; omega)
  rw [this]; exact sm32 ⟨m, hm⟩
theorem amt64 {k : Int64} {m : Nat} (hk : k.toBitVec.toNat = m) (hm : m < 64) : (k.toBitVec.smod 64).toNat = m := by
  have : k.toBitVec = BitVec.ofNat 64 m := BitVec.eq_of_toNat_eq (by rw [hk, BitVec.toNat_ofNat]; omega)
  rw [this]; exact sm64 ⟨m, hm⟩
theorem shl_bit {x k : Int32} {m : Nat} (hk : k.toBitVec.toNat = m) (hm : m < 32) (i : Nat) : (x <<< k).toBitVec.getLsbD i = (decide (i < 32) && !decide (i < m) && x.toBitVec.getLsbD (i - m)) := by
  show (x.toBitVec <<< (k.toBitVec.smod 32)).getLsbD i = _
  rw [BitVec.shiftLeft_eq', amt32 hk hm, BitVec.getLsbD_shiftLeft]
theorem shlL_bit {x k : Int64} {m : Nat} (hk : k.toBitVec.toNat = m) (hm : m < 64) (i : Nat) : (x <<< k).toBitVec.getLsbD i = (decide (i < 64) && !decide (i < m) && x.toBitVec.getLsbD (i - m)) := by
  show (x.toBitVec <<< (k.toBitVec.smod 64)).getLsbD i = _
  rw [BitVec.shiftLeft_eq', amt64 hk hm, BitVec.getLsbD_shiftLeft]
theorem ushr_bit {v k : Int32} {m : Nat} (hk : (k &&& 31).toBitVec.toNat = m) (i : Nat) : (XT.ushr v k).toBitVec.getLsbD i = v.toBitVec.getLsbD (m + i) := by
  have hm : m < 32 := by
    subst hk
    have : (k &&& 31).toBitVec = k.toBitVec &&& 31#32 := rfl
    rw [this, BitVec.toNat_and]
    exact Nat.lt_of_le_of_lt Nat.and_le_right (by decide)
  show (v.toBitVec >>> ((k &&& 31).toBitVec % 32)).getLsbD i = _
  have h2 : ((k &&& 31).toBitVec % 32).toNat = m := by rw [BitVec.toNat_umod, hk]; exact Nat.mod_eq_of_lt hm
  rw [BitVec.ushiftRight_eq', h2, BitVec.getLsbD_ushiftRight]
theorem ushrL_bit {v : Int64} {k : Int32} {m : Nat} (hk : (k.toInt64 &&& 63).toBitVec.toNat = m) (i : Nat) : (XT.ushrL v k).toBitVec.getLsbD i = v.toBitVec.getLsbD (m + i) := by
  have hm : m < 64 := by
    subst hk
    have : (k.toInt64 &&& 63).toBitVec = k.toInt64.toBitVec &&& 63#64 := rfl
    rw [this, BitVec.toNat_and]
    exact Nat.lt_of_le_of_lt Nat.and_le_right (by decide)
  show (v.toBitVec >>> ((k.toInt64 &&& 63).toBitVec % 64)).getLsbD i = _
  have h2 : ((k.toInt64 &&& 63).toBitVec % 64).toNat = m := by rw [BitVec.toNat_umod, hk]; exact Nat.mod_eq_of_lt hm
  rw [BitVec.ushiftRight_eq', h2, BitVec.getLsbD_ushiftRight]
theorem byte_bit (x : Int32) (i : Nat) : (x.toInt8.toInt32).toBitVec.getLsbD i = (decide (i < 32) && x.toBitVec.getLsbD (if i < 8 then i else 7)) := by
  show ((x.toBitVec.signExtend 8).signExtend 32).getLsbD i = _
  rw [BitVec.getLsbD_signExtend, BitVec.msb_eq_getLsbD_last, BitVec.getLsbD_signExtend, BitVec.getLsbD_signExtend]
  by_cases h : i < 8
  · simp [h, show i < 32 by omega]
  · simp [h]
theorem and_bit (x y : Int32) (i : Nat) : (x &&& y).toBitVec.getLsbD i = (x.toBitVec.getLsbD i && y.toBitVec.getLsbD i) := BitVec.getLsbD_and
theorem or_bit (x y : Int32) (i : Nat) : (x ||| y).toBitVec.getLsbD i = (x.toBitVec.getLsbD i || y.toBitVec.getLsbD i) := BitVec.getLsbD_or
theorem andL_bit (x y : Int64) (i : Nat) : (x &&& y).toBitVec.getLsbD i = (x.toBitVec.getLsbD i && y.toBitVec.getLsbD i) := BitVec.getLsbD_and
theorem orL_bit (x y : Int64) (i : Nat) : (x ||| y).toBitVec.getLsbD i = (x.toBitVec.getLsbD i || y.toBitVec.getLsbD i) := BitVec.getLsbD_or
theorem i2l_bit (x : Int32) (i : Nat) : x.toInt64.toBitVec.getLsbD i = (decide (i < 64) && x.toBitVec.getLsbD (if i < 32 then i else 31)) := by
  show (x.toBitVec.signExtend 64).getLsbD i = _
  rw [BitVec.getLsbD_signExtend, BitVec.msb_eq_getLsbD_last]
  by_cases h : i < 32 <;> simp [h]
theorem l2i_bit (x : Int64) (i : Nat) : x.toInt32.toBitVec.getLsbD i = (decide (i < 32) && x.toBitVec.getLsbD i) := by
  show (x.toBitVec.signExtend 32).getLsbD i = _
  rw [BitVec.getLsbD_signExtend]
  by_cases h : i < 32
  · simp [h, show i < 64 by omega]
  · simp [h]
theorem lit_bit (m i : Nat) : (Int32.ofNat m).toBitVec.getLsbD i = (decide (i < 32) && m.testBit i) := by
  show (BitVec.ofNat 32 m).getLsbD i = _
  rw [BitVec.getLsbD_ofNat]
theorem litL_bit (m i : Nat) : (Int64.ofNat m).toBitVec.getLsbD i = (decide (i < 64) && m.testBit i) := by
  show (BitVec.ofNat 64 m).getLsbD i = _
  rw [BitVec.getLsbD_ofNat]
theorem m255 (i : Nat) : (255 : Int32).toBitVec.getLsbD i = decide (i < 8) := by
  have : (255 : Int32) = Int32.ofNat (2 ^ 8 - 1) := rfl
  rw [this, lit_bit, Nat.testBit_two_pow_sub_one]
  by_cases h : i < 8 <;> simp [h]; omega
theorem and_nat (x y : Int32) (m : Nat) (hy : y.toBitVec.toNat = m) : (x &&& y).toBitVec.toNat ≤ m := by
  show (x.toBitVec &&& y.toBitVec).toNat ≤ m
  rw [BitVec.toNat_and, hy]; exact Nat.and_le_right
theorem of_nat32 {x : Int32} {m : Nat} (h : x.toBitVec.toNat = m) : x = Int32.ofNat m := by
  apply Int32.toBitVec_inj.mp
  apply BitVec.eq_of_toNat_eq
  show _ = (BitVec.ofNat 32 m).toNat
  rw [BitVec.toNat_ofNat, h]
  have := x.toBitVec.isLt
  omega
theorem and_three (x : Int32) : x &&& 3 = 0 ∨ x &&& 3 = 1 ∨ x &&& 3 = 2 ∨ x &&& 3 = 3 := by
  have h := and_nat x 3 3 rfl
  have hc : (x &&& 3).toBitVec.toNat = 0 ∨ (x &&& 3).toBitVec.toNat = 1 ∨ (x &&& 3).toBitVec.toNat = 2 ∨ (x &&& 3).toBitVec.toNat = 3 := by omega
  rcases hc with q | q | q | q
  · exact Or.inl (of_nat32 q)
  · exact Or.inr (Or.inl (of_nat32 q))
  · exact Or.inr (Or.inr (Or.inl (of_nat32 q)))
  · exact Or.inr (Or.inr (Or.inr (of_nat32 q)))
theorem nar_byte (y : Int32) : nar .byte (y.toInt8.toInt32) = y.toInt8.toInt32 := by
  show y.toInt8.toInt32.toInt8.toInt32 = y.toInt8.toInt32
  simp
theorem ushr_zero (x : Int32) (k : Int32) (hk : (k &&& 31).toBitVec.toNat = 0) : XT.ushr x k = x := bx32 fun i _ => by rw [ushr_bit hk, Nat.zero_add]
theorem rem_nat (x d : Int32) (m : Nat) (hx : 0 ≤ x.toInt) (hd : d.toInt = m) (hm : 0 < m) (hb : m < 2 ^ 31) : ∃ k, k < m ∧ x % d = Int32.ofNat k := by
  have h1 : (x % d).toInt = x.toInt % m := by rw [Int32.toInt_mod, hd, Int.tmod_eq_emod_of_nonneg hx]
  have h2 := Int.emod_nonneg x.toInt (show (m : Int) ≠ 0 by omega)
  have h3 := Int.emod_lt_of_pos x.toInt (show (0 : Int) < m by omega)
  refine ⟨(x.toInt % m).toNat, by omega, ?_⟩
  apply Int32.toInt_inj.mp
  rw [h1, Int32.toInt_ofNat_of_lt (by omega)]
  omega
end Jvm.OwnW
namespace Jvm.Pilot.@@N@@
open Jvm Jvm.ClassFile Sem Op Lib Jvm.Free Jvm.Stand Jvm.LawKit Jvm.RoadKit Bundle Jvm.Pilot.@@N@@.Jvm.D Jvm.OwnW

theorem wd {c : Jvm.Cond} (k : Nat) (h : tables_1[k]? = some c) : c ∈ tables_1 := List.mem_of_getElem? h
def m0 : Meth := (x, code, maxLocals, ret, room_1)
def m1 : Meth := (⟨"com/example/reshelve/reshelve/io/parquet/RowBuffer", "<init>", "(I)V"⟩, prog_25_method_2_code, 2, none, { frames := 1, cells := 1, slots := 16, locals := 20 })
def m3 : Meth := (⟨"com/example/reshelve/reshelve/io/parquet/RowBuffer", "skip", "(I)V"⟩, prog_25_method_6_code, 2, none, { frames := 1, cells := 0, slots := 0, locals := 23 })
def m4 : Meth := (⟨"com/example/reshelve/reshelve/io/parquet/RowBuffer", "room", "(I)V"⟩, prog_25_method_17_code, 4, none, { frames := 0, cells := 0, slots := 0, locals := 0 })
def m5 : Meth := (⟨"com/example/reshelve/reshelve/io/parquet/RowBuffer", "bytes", "()[B"⟩, prog_25_method_3_code, 1, some (.array .byte), { frames := 0, cells := 0, slots := 0, locals := 0 })
def m6 : Meth := (⟨"com/example/reshelve/reshelve/io/parquet/RowBuffer", "setVarint", "(IJ)V"⟩, prog_25_method_10_code, 7, none, { frames := 0, cells := 0, slots := 0, locals := 0 })
def m7 : Meth := (⟨"com/example/reshelve/reshelve/io/parquet/RowBuffer", "length", "()I"⟩, prog_25_method_4_code, 1, some .int, { frames := 0, cells := 0, slots := 0, locals := 0 })
def m8 : Meth := (⟨"com/example/reshelve/reshelve/io/parquet/RowBufferSetVarintPinLaw", "at", "([BIIJB)Z"⟩, method_3_code, 6, some .boolean, { frames := 1, cells := 0, slots := 0, locals := 26 })
def m9 : Meth := (⟨"com/example/reshelve/reshelve/io/parquet/RowBufferSetVarintPinLaw", "expected", "(JIB)B"⟩, method_2_code, 7, some .byte, { frames := 0, cells := 0, slots := 0, locals := 0 })
theorem d0_0 : D m0 0 (.lload_n 0) 1 1 := ⟨by decide +kernel, rfl⟩
theorem d0_1 : D m0 1 (.iload_n 2) 1 2 := ⟨by decide +kernel, rfl⟩
theorem d0_2 : D m0 2 (.bipush 63) 2 4 := ⟨by decide +kernel, rfl⟩
theorem d0_4 : D m0 4 (.iand) 1 5 := ⟨by decide +kernel, rfl⟩
theorem d0_5 : D m0 5 (.lushr) 1 6 := ⟨by decide +kernel, rfl⟩
theorem d0_6 : D m0 6 (.lstore 5) 2 8 := ⟨by decide +kernel, rfl⟩
theorem d0_8 : D m0 8 (.iload_n 3) 1 9 := ⟨by decide +kernel, rfl⟩
theorem d0_9 : D m0 9 (.iconst 3) 1 10 := ⟨by decide +kernel, rfl⟩
theorem d0_10 : D m0 10 (.iand) 1 11 := ⟨by decide +kernel, rfl⟩
theorem d0_11 : D m0 11 (.istore 7) 2 13 := ⟨by decide +kernel, rfl⟩
theorem d0_13 : D m0 13 (.iload 4) 2 15 := ⟨by decide +kernel, rfl⟩
theorem d0_15 : D m0 15 (.i2b) 1 16 := ⟨by decide +kernel, rfl⟩
theorem d0_16 : D m0 16 (.istore 8) 2 18 := ⟨by decide +kernel, rfl⟩
theorem d0_18 : D m0 18 (.new 17) 3 21 := ⟨by decide +kernel, rfl⟩
theorem d0_21 : D m0 21 (.dup) 1 22 := ⟨by decide +kernel, rfl⟩
theorem d0_22 : D m0 22 (.bipush 16) 2 24 := ⟨by decide +kernel, rfl⟩
theorem d0_24 : D m0 24 (.invokespecial 19) 3 27 := ⟨by decide +kernel, rfl⟩
theorem d0_27 : D m0 27 (.astore 9) 2 29 := ⟨by decide +kernel, rfl⟩
theorem d0_29 : D m0 29 (.aload 9) 2 31 := ⟨by decide +kernel, rfl⟩
theorem d0_31 : D m0 31 (.bipush 16) 2 33 := ⟨by decide +kernel, rfl⟩
theorem d0_33 : D m0 33 (.invokevirtual 22) 3 36 := ⟨by decide +kernel, rfl⟩
theorem d0_36 : D m0 36 (.aload 9) 2 38 := ⟨by decide +kernel, rfl⟩
theorem d0_38 : D m0 38 (.invokevirtual 25) 3 41 := ⟨by decide +kernel, rfl⟩
theorem d0_41 : D m0 41 (.astore 10) 2 43 := ⟨by decide +kernel, rfl⟩
theorem d0_43 : D m0 43 (.aload 10) 2 45 := ⟨by decide +kernel, rfl⟩
theorem d0_45 : D m0 45 (.iconst 0) 1 46 := ⟨by decide +kernel, rfl⟩
theorem d0_46 : D m0 46 (.iload 8) 2 48 := ⟨by decide +kernel, rfl⟩
theorem d0_48 : D m0 48 (.bastore) 1 49 := ⟨by decide +kernel, rfl⟩
theorem d0_49 : D m0 49 (.aload 10) 2 51 := ⟨by decide +kernel, rfl⟩
theorem d0_51 : D m0 51 (.iconst 1) 1 52 := ⟨by decide +kernel, rfl⟩
theorem d0_52 : D m0 52 (.iload 8) 2 54 := ⟨by decide +kernel, rfl⟩
theorem d0_54 : D m0 54 (.bastore) 1 55 := ⟨by decide +kernel, rfl⟩
theorem d0_55 : D m0 55 (.aload 10) 2 57 := ⟨by decide +kernel, rfl⟩
theorem d0_57 : D m0 57 (.iconst 2) 1 58 := ⟨by decide +kernel, rfl⟩
theorem d0_58 : D m0 58 (.iload 8) 2 60 := ⟨by decide +kernel, rfl⟩
theorem d0_60 : D m0 60 (.bastore) 1 61 := ⟨by decide +kernel, rfl⟩
theorem d0_61 : D m0 61 (.aload 10) 2 63 := ⟨by decide +kernel, rfl⟩
theorem d0_63 : D m0 63 (.iconst 3) 1 64 := ⟨by decide +kernel, rfl⟩
theorem d0_64 : D m0 64 (.iload 8) 2 66 := ⟨by decide +kernel, rfl⟩
theorem d0_66 : D m0 66 (.bastore) 1 67 := ⟨by decide +kernel, rfl⟩
theorem d0_67 : D m0 67 (.aload 10) 2 69 := ⟨by decide +kernel, rfl⟩
theorem d0_69 : D m0 69 (.iconst 4) 1 70 := ⟨by decide +kernel, rfl⟩
theorem d0_70 : D m0 70 (.iload 8) 2 72 := ⟨by decide +kernel, rfl⟩
theorem d0_72 : D m0 72 (.bastore) 1 73 := ⟨by decide +kernel, rfl⟩
theorem d0_73 : D m0 73 (.aload 10) 2 75 := ⟨by decide +kernel, rfl⟩
theorem d0_75 : D m0 75 (.iconst 5) 1 76 := ⟨by decide +kernel, rfl⟩
theorem d0_76 : D m0 76 (.iload 8) 2 78 := ⟨by decide +kernel, rfl⟩
theorem d0_78 : D m0 78 (.bastore) 1 79 := ⟨by decide +kernel, rfl⟩
theorem d0_79 : D m0 79 (.aload 10) 2 81 := ⟨by decide +kernel, rfl⟩
theorem d0_81 : D m0 81 (.bipush 6) 2 83 := ⟨by decide +kernel, rfl⟩
theorem d0_83 : D m0 83 (.iload 8) 2 85 := ⟨by decide +kernel, rfl⟩
theorem d0_85 : D m0 85 (.bastore) 1 86 := ⟨by decide +kernel, rfl⟩
theorem d0_86 : D m0 86 (.aload 10) 2 88 := ⟨by decide +kernel, rfl⟩
theorem d0_88 : D m0 88 (.bipush 7) 2 90 := ⟨by decide +kernel, rfl⟩
theorem d0_90 : D m0 90 (.iload 8) 2 92 := ⟨by decide +kernel, rfl⟩
theorem d0_92 : D m0 92 (.bastore) 1 93 := ⟨by decide +kernel, rfl⟩
theorem d0_93 : D m0 93 (.aload 10) 2 95 := ⟨by decide +kernel, rfl⟩
theorem d0_95 : D m0 95 (.bipush 8) 2 97 := ⟨by decide +kernel, rfl⟩
theorem d0_97 : D m0 97 (.iload 8) 2 99 := ⟨by decide +kernel, rfl⟩
theorem d0_99 : D m0 99 (.bastore) 1 100 := ⟨by decide +kernel, rfl⟩
theorem d0_100 : D m0 100 (.aload 10) 2 102 := ⟨by decide +kernel, rfl⟩
theorem d0_102 : D m0 102 (.bipush 9) 2 104 := ⟨by decide +kernel, rfl⟩
theorem d0_104 : D m0 104 (.iload 8) 2 106 := ⟨by decide +kernel, rfl⟩
theorem d0_106 : D m0 106 (.bastore) 1 107 := ⟨by decide +kernel, rfl⟩
theorem d0_107 : D m0 107 (.aload 10) 2 109 := ⟨by decide +kernel, rfl⟩
theorem d0_109 : D m0 109 (.bipush 10) 2 111 := ⟨by decide +kernel, rfl⟩
theorem d0_111 : D m0 111 (.iload 8) 2 113 := ⟨by decide +kernel, rfl⟩
theorem d0_113 : D m0 113 (.bastore) 1 114 := ⟨by decide +kernel, rfl⟩
theorem d0_114 : D m0 114 (.aload 10) 2 116 := ⟨by decide +kernel, rfl⟩
theorem d0_116 : D m0 116 (.bipush 11) 2 118 := ⟨by decide +kernel, rfl⟩
theorem d0_118 : D m0 118 (.iload 8) 2 120 := ⟨by decide +kernel, rfl⟩
theorem d0_120 : D m0 120 (.bastore) 1 121 := ⟨by decide +kernel, rfl⟩
theorem d0_121 : D m0 121 (.aload 10) 2 123 := ⟨by decide +kernel, rfl⟩
theorem d0_123 : D m0 123 (.bipush 12) 2 125 := ⟨by decide +kernel, rfl⟩
theorem d0_125 : D m0 125 (.iload 8) 2 127 := ⟨by decide +kernel, rfl⟩
theorem d0_127 : D m0 127 (.bastore) 1 128 := ⟨by decide +kernel, rfl⟩
theorem d0_128 : D m0 128 (.aload 10) 2 130 := ⟨by decide +kernel, rfl⟩
theorem d0_130 : D m0 130 (.bipush 13) 2 132 := ⟨by decide +kernel, rfl⟩
theorem d0_132 : D m0 132 (.iload 8) 2 134 := ⟨by decide +kernel, rfl⟩
theorem d0_134 : D m0 134 (.bastore) 1 135 := ⟨by decide +kernel, rfl⟩
theorem d0_135 : D m0 135 (.aload 10) 2 137 := ⟨by decide +kernel, rfl⟩
theorem d0_137 : D m0 137 (.bipush 14) 2 139 := ⟨by decide +kernel, rfl⟩
theorem d0_139 : D m0 139 (.iload 8) 2 141 := ⟨by decide +kernel, rfl⟩
theorem d0_141 : D m0 141 (.bastore) 1 142 := ⟨by decide +kernel, rfl⟩
theorem d0_142 : D m0 142 (.aload 10) 2 144 := ⟨by decide +kernel, rfl⟩
theorem d0_144 : D m0 144 (.bipush 15) 2 146 := ⟨by decide +kernel, rfl⟩
theorem d0_146 : D m0 146 (.iload 8) 2 148 := ⟨by decide +kernel, rfl⟩
theorem d0_148 : D m0 148 (.bastore) 1 149 := ⟨by decide +kernel, rfl⟩
theorem d0_149 : D m0 149 (.aload 9) 2 151 := ⟨by decide +kernel, rfl⟩
theorem d0_151 : D m0 151 (.iload 7) 2 153 := ⟨by decide +kernel, rfl⟩
theorem d0_153 : D m0 153 (.lload 5) 2 155 := ⟨by decide +kernel, rfl⟩
theorem d0_155 : D m0 155 (.invokevirtual 29) 3 158 := ⟨by decide +kernel, rfl⟩
theorem d0_158 : D m0 158 (.aload 9) 2 160 := ⟨by decide +kernel, rfl⟩
theorem d0_160 : D m0 160 (.invokevirtual 33) 3 163 := ⟨by decide +kernel, rfl⟩
theorem d0_163 : D m0 163 (.bipush 16) 2 165 := ⟨by decide +kernel, rfl⟩
theorem d0_165 : DB m0 165 (.if_icmp .ne 7) 7 168 172 := ⟨by decide +kernel, rfl, by decide, by decide⟩
theorem d0_168 : D m0 168 (.iconst 1) 1 169 := ⟨by decide +kernel, rfl⟩
theorem d0_169 : DB m0 169 (.goto 4) 4 172 173 := ⟨by decide +kernel, rfl, by decide, by decide⟩
theorem d0_172 : D m0 172 (.iconst 0) 1 173 := ⟨by decide +kernel, rfl⟩
theorem d0_173 : D m0 173 (.istore 11) 2 175 := ⟨by decide +kernel, rfl⟩
theorem d0_175 : D m0 175 (.iload 11) 2 177 := ⟨by decide +kernel, rfl⟩
theorem d0_177 : DB m0 177 (.ifCond .eq 22) 22 180 199 := ⟨by decide +kernel, rfl, by decide, by decide⟩
theorem d0_180 : D m0 180 (.aload 10) 2 182 := ⟨by decide +kernel, rfl⟩
theorem d0_182 : D m0 182 (.iconst 0) 1 183 := ⟨by decide +kernel, rfl⟩
theorem d0_183 : D m0 183 (.iload 7) 2 185 := ⟨by decide +kernel, rfl⟩
theorem d0_185 : D m0 185 (.lload 5) 2 187 := ⟨by decide +kernel, rfl⟩
theorem d0_187 : D m0 187 (.iload 8) 2 189 := ⟨by decide +kernel, rfl⟩
theorem d0_189 : D m0 189 (.invokestatic 37) 3 192 := ⟨by decide +kernel, rfl⟩
theorem d0_192 : DB m0 192 (.ifCond .eq 7) 7 195 199 := ⟨by decide +kernel, rfl, by decide, by decide⟩
theorem d0_195 : D m0 195 (.iconst 1) 1 196 := ⟨by decide +kernel, rfl⟩
theorem d0_196 : DB m0 196 (.goto 4) 4 199 200 := ⟨by decide +kernel, rfl, by decide, by decide⟩
theorem d0_199 : D m0 199 (.iconst 0) 1 200 := ⟨by decide +kernel, rfl⟩
theorem d0_200 : D m0 200 (.istore 11) 2 202 := ⟨by decide +kernel, rfl⟩
theorem d0_202 : D m0 202 (.iload 11) 2 204 := ⟨by decide +kernel, rfl⟩
theorem d0_204 : DB m0 204 (.ifCond .eq 22) 22 207 226 := ⟨by decide +kernel, rfl, by decide, by decide⟩
theorem d0_207 : D m0 207 (.aload 10) 2 209 := ⟨by decide +kernel, rfl⟩
theorem d0_209 : D m0 209 (.iconst 1) 1 210 := ⟨by decide +kernel, rfl⟩
theorem d0_210 : D m0 210 (.iload 7) 2 212 := ⟨by decide +kernel, rfl⟩
theorem d0_212 : D m0 212 (.lload 5) 2 214 := ⟨by decide +kernel, rfl⟩
theorem d0_214 : D m0 214 (.iload 8) 2 216 := ⟨by decide +kernel, rfl⟩
theorem d0_216 : D m0 216 (.invokestatic 37) 3 219 := ⟨by decide +kernel, rfl⟩
theorem d0_219 : DB m0 219 (.ifCond .eq 7) 7 222 226 := ⟨by decide +kernel, rfl, by decide, by decide⟩
theorem d0_222 : D m0 222 (.iconst 1) 1 223 := ⟨by decide +kernel, rfl⟩
theorem d0_223 : DB m0 223 (.goto 4) 4 226 227 := ⟨by decide +kernel, rfl, by decide, by decide⟩
theorem d0_226 : D m0 226 (.iconst 0) 1 227 := ⟨by decide +kernel, rfl⟩
theorem d0_227 : D m0 227 (.istore 11) 2 229 := ⟨by decide +kernel, rfl⟩
theorem d0_229 : D m0 229 (.iload 11) 2 231 := ⟨by decide +kernel, rfl⟩
theorem d0_231 : DB m0 231 (.ifCond .eq 22) 22 234 253 := ⟨by decide +kernel, rfl, by decide, by decide⟩
theorem d0_234 : D m0 234 (.aload 10) 2 236 := ⟨by decide +kernel, rfl⟩
theorem d0_236 : D m0 236 (.iconst 2) 1 237 := ⟨by decide +kernel, rfl⟩
theorem d0_237 : D m0 237 (.iload 7) 2 239 := ⟨by decide +kernel, rfl⟩
theorem d0_239 : D m0 239 (.lload 5) 2 241 := ⟨by decide +kernel, rfl⟩
theorem d0_241 : D m0 241 (.iload 8) 2 243 := ⟨by decide +kernel, rfl⟩
theorem d0_243 : D m0 243 (.invokestatic 37) 3 246 := ⟨by decide +kernel, rfl⟩
theorem d0_246 : DB m0 246 (.ifCond .eq 7) 7 249 253 := ⟨by decide +kernel, rfl, by decide, by decide⟩
theorem d0_249 : D m0 249 (.iconst 1) 1 250 := ⟨by decide +kernel, rfl⟩
theorem d0_250 : DB m0 250 (.goto 4) 4 253 254 := ⟨by decide +kernel, rfl, by decide, by decide⟩
theorem d0_253 : D m0 253 (.iconst 0) 1 254 := ⟨by decide +kernel, rfl⟩
theorem d0_254 : D m0 254 (.istore 11) 2 256 := ⟨by decide +kernel, rfl⟩
theorem d0_256 : D m0 256 (.iload 11) 2 258 := ⟨by decide +kernel, rfl⟩
theorem d0_258 : DB m0 258 (.ifCond .eq 22) 22 261 280 := ⟨by decide +kernel, rfl, by decide, by decide⟩
theorem d0_261 : D m0 261 (.aload 10) 2 263 := ⟨by decide +kernel, rfl⟩
theorem d0_263 : D m0 263 (.iconst 3) 1 264 := ⟨by decide +kernel, rfl⟩
theorem d0_264 : D m0 264 (.iload 7) 2 266 := ⟨by decide +kernel, rfl⟩
theorem d0_266 : D m0 266 (.lload 5) 2 268 := ⟨by decide +kernel, rfl⟩
theorem d0_268 : D m0 268 (.iload 8) 2 270 := ⟨by decide +kernel, rfl⟩
theorem d0_270 : D m0 270 (.invokestatic 37) 3 273 := ⟨by decide +kernel, rfl⟩
theorem d0_273 : DB m0 273 (.ifCond .eq 7) 7 276 280 := ⟨by decide +kernel, rfl, by decide, by decide⟩
theorem d0_276 : D m0 276 (.iconst 1) 1 277 := ⟨by decide +kernel, rfl⟩
theorem d0_277 : DB m0 277 (.goto 4) 4 280 281 := ⟨by decide +kernel, rfl, by decide, by decide⟩
theorem d0_280 : D m0 280 (.iconst 0) 1 281 := ⟨by decide +kernel, rfl⟩
theorem d0_281 : D m0 281 (.istore 11) 2 283 := ⟨by decide +kernel, rfl⟩
theorem d0_283 : D m0 283 (.iload 11) 2 285 := ⟨by decide +kernel, rfl⟩
theorem d0_285 : DB m0 285 (.ifCond .eq 22) 22 288 307 := ⟨by decide +kernel, rfl, by decide, by decide⟩
theorem d0_288 : D m0 288 (.aload 10) 2 290 := ⟨by decide +kernel, rfl⟩
theorem d0_290 : D m0 290 (.iconst 4) 1 291 := ⟨by decide +kernel, rfl⟩
theorem d0_291 : D m0 291 (.iload 7) 2 293 := ⟨by decide +kernel, rfl⟩
theorem d0_293 : D m0 293 (.lload 5) 2 295 := ⟨by decide +kernel, rfl⟩
theorem d0_295 : D m0 295 (.iload 8) 2 297 := ⟨by decide +kernel, rfl⟩
theorem d0_297 : D m0 297 (.invokestatic 37) 3 300 := ⟨by decide +kernel, rfl⟩
theorem d0_300 : DB m0 300 (.ifCond .eq 7) 7 303 307 := ⟨by decide +kernel, rfl, by decide, by decide⟩
theorem d0_303 : D m0 303 (.iconst 1) 1 304 := ⟨by decide +kernel, rfl⟩
theorem d0_304 : DB m0 304 (.goto 4) 4 307 308 := ⟨by decide +kernel, rfl, by decide, by decide⟩
theorem d0_307 : D m0 307 (.iconst 0) 1 308 := ⟨by decide +kernel, rfl⟩
theorem d0_308 : D m0 308 (.istore 11) 2 310 := ⟨by decide +kernel, rfl⟩
theorem d0_310 : D m0 310 (.iload 11) 2 312 := ⟨by decide +kernel, rfl⟩
theorem d0_312 : DB m0 312 (.ifCond .eq 22) 22 315 334 := ⟨by decide +kernel, rfl, by decide, by decide⟩
theorem d0_315 : D m0 315 (.aload 10) 2 317 := ⟨by decide +kernel, rfl⟩
theorem d0_317 : D m0 317 (.iconst 5) 1 318 := ⟨by decide +kernel, rfl⟩
theorem d0_318 : D m0 318 (.iload 7) 2 320 := ⟨by decide +kernel, rfl⟩
theorem d0_320 : D m0 320 (.lload 5) 2 322 := ⟨by decide +kernel, rfl⟩
theorem d0_322 : D m0 322 (.iload 8) 2 324 := ⟨by decide +kernel, rfl⟩
theorem d0_324 : D m0 324 (.invokestatic 37) 3 327 := ⟨by decide +kernel, rfl⟩
theorem d0_327 : DB m0 327 (.ifCond .eq 7) 7 330 334 := ⟨by decide +kernel, rfl, by decide, by decide⟩
theorem d0_330 : D m0 330 (.iconst 1) 1 331 := ⟨by decide +kernel, rfl⟩
theorem d0_331 : DB m0 331 (.goto 4) 4 334 335 := ⟨by decide +kernel, rfl, by decide, by decide⟩
theorem d0_334 : D m0 334 (.iconst 0) 1 335 := ⟨by decide +kernel, rfl⟩
theorem d0_335 : D m0 335 (.istore 11) 2 337 := ⟨by decide +kernel, rfl⟩
theorem d0_337 : D m0 337 (.iload 11) 2 339 := ⟨by decide +kernel, rfl⟩
theorem d0_339 : DB m0 339 (.ifCond .eq 23) 23 342 362 := ⟨by decide +kernel, rfl, by decide, by decide⟩
theorem d0_342 : D m0 342 (.aload 10) 2 344 := ⟨by decide +kernel, rfl⟩
theorem d0_344 : D m0 344 (.bipush 6) 2 346 := ⟨by decide +kernel, rfl⟩
theorem d0_346 : D m0 346 (.iload 7) 2 348 := ⟨by decide +kernel, rfl⟩
theorem d0_348 : D m0 348 (.lload 5) 2 350 := ⟨by decide +kernel, rfl⟩
theorem d0_350 : D m0 350 (.iload 8) 2 352 := ⟨by decide +kernel, rfl⟩
theorem d0_352 : D m0 352 (.invokestatic 37) 3 355 := ⟨by decide +kernel, rfl⟩
theorem d0_355 : DB m0 355 (.ifCond .eq 7) 7 358 362 := ⟨by decide +kernel, rfl, by decide, by decide⟩
theorem d0_358 : D m0 358 (.iconst 1) 1 359 := ⟨by decide +kernel, rfl⟩
theorem d0_359 : DB m0 359 (.goto 4) 4 362 363 := ⟨by decide +kernel, rfl, by decide, by decide⟩
theorem d0_362 : D m0 362 (.iconst 0) 1 363 := ⟨by decide +kernel, rfl⟩
theorem d0_363 : D m0 363 (.istore 11) 2 365 := ⟨by decide +kernel, rfl⟩
theorem d0_365 : D m0 365 (.iload 11) 2 367 := ⟨by decide +kernel, rfl⟩
theorem d0_367 : DB m0 367 (.ifCond .eq 23) 23 370 390 := ⟨by decide +kernel, rfl, by decide, by decide⟩
theorem d0_370 : D m0 370 (.aload 10) 2 372 := ⟨by decide +kernel, rfl⟩
theorem d0_372 : D m0 372 (.bipush 7) 2 374 := ⟨by decide +kernel, rfl⟩
theorem d0_374 : D m0 374 (.iload 7) 2 376 := ⟨by decide +kernel, rfl⟩
theorem d0_376 : D m0 376 (.lload 5) 2 378 := ⟨by decide +kernel, rfl⟩
theorem d0_378 : D m0 378 (.iload 8) 2 380 := ⟨by decide +kernel, rfl⟩
theorem d0_380 : D m0 380 (.invokestatic 37) 3 383 := ⟨by decide +kernel, rfl⟩
theorem d0_383 : DB m0 383 (.ifCond .eq 7) 7 386 390 := ⟨by decide +kernel, rfl, by decide, by decide⟩
theorem d0_386 : D m0 386 (.iconst 1) 1 387 := ⟨by decide +kernel, rfl⟩
theorem d0_387 : DB m0 387 (.goto 4) 4 390 391 := ⟨by decide +kernel, rfl, by decide, by decide⟩
theorem d0_390 : D m0 390 (.iconst 0) 1 391 := ⟨by decide +kernel, rfl⟩
theorem d0_391 : D m0 391 (.istore 11) 2 393 := ⟨by decide +kernel, rfl⟩
theorem d0_393 : D m0 393 (.iload 11) 2 395 := ⟨by decide +kernel, rfl⟩
theorem d0_395 : DB m0 395 (.ifCond .eq 23) 23 398 418 := ⟨by decide +kernel, rfl, by decide, by decide⟩
theorem d0_398 : D m0 398 (.aload 10) 2 400 := ⟨by decide +kernel, rfl⟩
theorem d0_400 : D m0 400 (.bipush 8) 2 402 := ⟨by decide +kernel, rfl⟩
theorem d0_402 : D m0 402 (.iload 7) 2 404 := ⟨by decide +kernel, rfl⟩
theorem d0_404 : D m0 404 (.lload 5) 2 406 := ⟨by decide +kernel, rfl⟩
theorem d0_406 : D m0 406 (.iload 8) 2 408 := ⟨by decide +kernel, rfl⟩
theorem d0_408 : D m0 408 (.invokestatic 37) 3 411 := ⟨by decide +kernel, rfl⟩
theorem d0_411 : DB m0 411 (.ifCond .eq 7) 7 414 418 := ⟨by decide +kernel, rfl, by decide, by decide⟩
theorem d0_414 : D m0 414 (.iconst 1) 1 415 := ⟨by decide +kernel, rfl⟩
theorem d0_415 : DB m0 415 (.goto 4) 4 418 419 := ⟨by decide +kernel, rfl, by decide, by decide⟩
theorem d0_418 : D m0 418 (.iconst 0) 1 419 := ⟨by decide +kernel, rfl⟩
theorem d0_419 : D m0 419 (.istore 11) 2 421 := ⟨by decide +kernel, rfl⟩
theorem d0_421 : D m0 421 (.iload 11) 2 423 := ⟨by decide +kernel, rfl⟩
theorem d0_423 : DB m0 423 (.ifCond .eq 23) 23 426 446 := ⟨by decide +kernel, rfl, by decide, by decide⟩
theorem d0_426 : D m0 426 (.aload 10) 2 428 := ⟨by decide +kernel, rfl⟩
theorem d0_428 : D m0 428 (.bipush 9) 2 430 := ⟨by decide +kernel, rfl⟩
theorem d0_430 : D m0 430 (.iload 7) 2 432 := ⟨by decide +kernel, rfl⟩
theorem d0_432 : D m0 432 (.lload 5) 2 434 := ⟨by decide +kernel, rfl⟩
theorem d0_434 : D m0 434 (.iload 8) 2 436 := ⟨by decide +kernel, rfl⟩
theorem d0_436 : D m0 436 (.invokestatic 37) 3 439 := ⟨by decide +kernel, rfl⟩
theorem d0_439 : DB m0 439 (.ifCond .eq 7) 7 442 446 := ⟨by decide +kernel, rfl, by decide, by decide⟩
theorem d0_442 : D m0 442 (.iconst 1) 1 443 := ⟨by decide +kernel, rfl⟩
theorem d0_443 : DB m0 443 (.goto 4) 4 446 447 := ⟨by decide +kernel, rfl, by decide, by decide⟩
theorem d0_446 : D m0 446 (.iconst 0) 1 447 := ⟨by decide +kernel, rfl⟩
theorem d0_447 : D m0 447 (.istore 11) 2 449 := ⟨by decide +kernel, rfl⟩
theorem d0_449 : D m0 449 (.iload 11) 2 451 := ⟨by decide +kernel, rfl⟩
theorem d0_451 : DB m0 451 (.ifCond .eq 23) 23 454 474 := ⟨by decide +kernel, rfl, by decide, by decide⟩
theorem d0_454 : D m0 454 (.aload 10) 2 456 := ⟨by decide +kernel, rfl⟩
theorem d0_456 : D m0 456 (.bipush 10) 2 458 := ⟨by decide +kernel, rfl⟩
theorem d0_458 : D m0 458 (.iload 7) 2 460 := ⟨by decide +kernel, rfl⟩
theorem d0_460 : D m0 460 (.lload 5) 2 462 := ⟨by decide +kernel, rfl⟩
theorem d0_462 : D m0 462 (.iload 8) 2 464 := ⟨by decide +kernel, rfl⟩
theorem d0_464 : D m0 464 (.invokestatic 37) 3 467 := ⟨by decide +kernel, rfl⟩
theorem d0_467 : DB m0 467 (.ifCond .eq 7) 7 470 474 := ⟨by decide +kernel, rfl, by decide, by decide⟩
theorem d0_470 : D m0 470 (.iconst 1) 1 471 := ⟨by decide +kernel, rfl⟩
theorem d0_471 : DB m0 471 (.goto 4) 4 474 475 := ⟨by decide +kernel, rfl, by decide, by decide⟩
theorem d0_474 : D m0 474 (.iconst 0) 1 475 := ⟨by decide +kernel, rfl⟩
theorem d0_475 : D m0 475 (.istore 11) 2 477 := ⟨by decide +kernel, rfl⟩
theorem d0_477 : D m0 477 (.iload 11) 2 479 := ⟨by decide +kernel, rfl⟩
theorem d0_479 : DB m0 479 (.ifCond .eq 23) 23 482 502 := ⟨by decide +kernel, rfl, by decide, by decide⟩
theorem d0_482 : D m0 482 (.aload 10) 2 484 := ⟨by decide +kernel, rfl⟩
theorem d0_484 : D m0 484 (.bipush 11) 2 486 := ⟨by decide +kernel, rfl⟩
theorem d0_486 : D m0 486 (.iload 7) 2 488 := ⟨by decide +kernel, rfl⟩
theorem d0_488 : D m0 488 (.lload 5) 2 490 := ⟨by decide +kernel, rfl⟩
theorem d0_490 : D m0 490 (.iload 8) 2 492 := ⟨by decide +kernel, rfl⟩
theorem d0_492 : D m0 492 (.invokestatic 37) 3 495 := ⟨by decide +kernel, rfl⟩
theorem d0_495 : DB m0 495 (.ifCond .eq 7) 7 498 502 := ⟨by decide +kernel, rfl, by decide, by decide⟩
theorem d0_498 : D m0 498 (.iconst 1) 1 499 := ⟨by decide +kernel, rfl⟩
theorem d0_499 : DB m0 499 (.goto 4) 4 502 503 := ⟨by decide +kernel, rfl, by decide, by decide⟩
theorem d0_502 : D m0 502 (.iconst 0) 1 503 := ⟨by decide +kernel, rfl⟩
theorem d0_503 : D m0 503 (.istore 11) 2 505 := ⟨by decide +kernel, rfl⟩
theorem d0_505 : D m0 505 (.iload 11) 2 507 := ⟨by decide +kernel, rfl⟩
theorem d0_507 : DB m0 507 (.ifCond .eq 23) 23 510 530 := ⟨by decide +kernel, rfl, by decide, by decide⟩
theorem d0_510 : D m0 510 (.aload 10) 2 512 := ⟨by decide +kernel, rfl⟩
theorem d0_512 : D m0 512 (.bipush 12) 2 514 := ⟨by decide +kernel, rfl⟩
theorem d0_514 : D m0 514 (.iload 7) 2 516 := ⟨by decide +kernel, rfl⟩
theorem d0_516 : D m0 516 (.lload 5) 2 518 := ⟨by decide +kernel, rfl⟩
theorem d0_518 : D m0 518 (.iload 8) 2 520 := ⟨by decide +kernel, rfl⟩
theorem d0_520 : D m0 520 (.invokestatic 37) 3 523 := ⟨by decide +kernel, rfl⟩
theorem d0_523 : DB m0 523 (.ifCond .eq 7) 7 526 530 := ⟨by decide +kernel, rfl, by decide, by decide⟩
theorem d0_526 : D m0 526 (.iconst 1) 1 527 := ⟨by decide +kernel, rfl⟩
theorem d0_527 : DB m0 527 (.goto 4) 4 530 531 := ⟨by decide +kernel, rfl, by decide, by decide⟩
theorem d0_530 : D m0 530 (.iconst 0) 1 531 := ⟨by decide +kernel, rfl⟩
theorem d0_531 : D m0 531 (.istore 11) 2 533 := ⟨by decide +kernel, rfl⟩
theorem d0_533 : D m0 533 (.iload 11) 2 535 := ⟨by decide +kernel, rfl⟩
theorem d0_535 : DB m0 535 (.ifCond .eq 23) 23 538 558 := ⟨by decide +kernel, rfl, by decide, by decide⟩
theorem d0_538 : D m0 538 (.aload 10) 2 540 := ⟨by decide +kernel, rfl⟩
theorem d0_540 : D m0 540 (.bipush 13) 2 542 := ⟨by decide +kernel, rfl⟩
theorem d0_542 : D m0 542 (.iload 7) 2 544 := ⟨by decide +kernel, rfl⟩
theorem d0_544 : D m0 544 (.lload 5) 2 546 := ⟨by decide +kernel, rfl⟩
theorem d0_546 : D m0 546 (.iload 8) 2 548 := ⟨by decide +kernel, rfl⟩
theorem d0_548 : D m0 548 (.invokestatic 37) 3 551 := ⟨by decide +kernel, rfl⟩
theorem d0_551 : DB m0 551 (.ifCond .eq 7) 7 554 558 := ⟨by decide +kernel, rfl, by decide, by decide⟩
theorem d0_554 : D m0 554 (.iconst 1) 1 555 := ⟨by decide +kernel, rfl⟩
theorem d0_555 : DB m0 555 (.goto 4) 4 558 559 := ⟨by decide +kernel, rfl, by decide, by decide⟩
theorem d0_558 : D m0 558 (.iconst 0) 1 559 := ⟨by decide +kernel, rfl⟩
theorem d0_559 : D m0 559 (.istore 11) 2 561 := ⟨by decide +kernel, rfl⟩
theorem d0_561 : D m0 561 (.iload 11) 2 563 := ⟨by decide +kernel, rfl⟩
theorem d0_563 : DB m0 563 (.ifCond .eq 23) 23 566 586 := ⟨by decide +kernel, rfl, by decide, by decide⟩
theorem d0_566 : D m0 566 (.aload 10) 2 568 := ⟨by decide +kernel, rfl⟩
theorem d0_568 : D m0 568 (.bipush 14) 2 570 := ⟨by decide +kernel, rfl⟩
theorem d0_570 : D m0 570 (.iload 7) 2 572 := ⟨by decide +kernel, rfl⟩
theorem d0_572 : D m0 572 (.lload 5) 2 574 := ⟨by decide +kernel, rfl⟩
theorem d0_574 : D m0 574 (.iload 8) 2 576 := ⟨by decide +kernel, rfl⟩
theorem d0_576 : D m0 576 (.invokestatic 37) 3 579 := ⟨by decide +kernel, rfl⟩
theorem d0_579 : DB m0 579 (.ifCond .eq 7) 7 582 586 := ⟨by decide +kernel, rfl, by decide, by decide⟩
theorem d0_582 : D m0 582 (.iconst 1) 1 583 := ⟨by decide +kernel, rfl⟩
theorem d0_583 : DB m0 583 (.goto 4) 4 586 587 := ⟨by decide +kernel, rfl, by decide, by decide⟩
theorem d0_586 : D m0 586 (.iconst 0) 1 587 := ⟨by decide +kernel, rfl⟩
theorem d0_587 : D m0 587 (.istore 11) 2 589 := ⟨by decide +kernel, rfl⟩
theorem d0_589 : D m0 589 (.iload 11) 2 591 := ⟨by decide +kernel, rfl⟩
theorem d0_591 : DB m0 591 (.ifCond .eq 23) 23 594 614 := ⟨by decide +kernel, rfl, by decide, by decide⟩
theorem d0_594 : D m0 594 (.aload 10) 2 596 := ⟨by decide +kernel, rfl⟩
theorem d0_596 : D m0 596 (.bipush 15) 2 598 := ⟨by decide +kernel, rfl⟩
theorem d0_598 : D m0 598 (.iload 7) 2 600 := ⟨by decide +kernel, rfl⟩
theorem d0_600 : D m0 600 (.lload 5) 2 602 := ⟨by decide +kernel, rfl⟩
theorem d0_602 : D m0 602 (.iload 8) 2 604 := ⟨by decide +kernel, rfl⟩
theorem d0_604 : D m0 604 (.invokestatic 37) 3 607 := ⟨by decide +kernel, rfl⟩
theorem d0_607 : DB m0 607 (.ifCond .eq 7) 7 610 614 := ⟨by decide +kernel, rfl, by decide, by decide⟩
theorem d0_610 : D m0 610 (.iconst 1) 1 611 := ⟨by decide +kernel, rfl⟩
theorem d0_611 : DB m0 611 (.goto 4) 4 614 615 := ⟨by decide +kernel, rfl, by decide, by decide⟩
theorem d0_614 : D m0 614 (.iconst 0) 1 615 := ⟨by decide +kernel, rfl⟩
theorem d0_615 : D m0 615 (.istore 11) 2 617 := ⟨by decide +kernel, rfl⟩
theorem d0_617 : D m0 617 (.iload 11) 2 619 := ⟨by decide +kernel, rfl⟩
theorem d0_619 : D m0 619 (.ireturn) 1 620 := ⟨by decide +kernel, rfl⟩
theorem d1_0 : D m1 0 (.aload_n 0) 1 1 := ⟨by decide +kernel, rfl⟩
theorem d1_1 : D m1 1 (.invokespecial 9) 3 4 := ⟨by decide +kernel, rfl⟩
theorem d1_4 : D m1 4 (.aload_n 0) 1 5 := ⟨by decide +kernel, rfl⟩
theorem d1_5 : D m1 5 (.iload_n 1) 1 6 := ⟨by decide +kernel, rfl⟩
theorem d1_6 : D m1 6 (.newarray .byte) 2 8 := ⟨by decide +kernel, rfl⟩
theorem d1_8 : D m1 8 (.putfield 14) 3 11 := ⟨by decide +kernel, rfl⟩
theorem d1_11 : D m1 11 (.return_) 1 12 := ⟨by decide +kernel, rfl⟩
theorem d3_0 : D m3 0 (.aload_n 0) 1 1 := ⟨by decide +kernel, rfl⟩
theorem d3_1 : D m3 1 (.iload_n 1) 1 2 := ⟨by decide +kernel, rfl⟩
theorem d3_2 : D m3 2 (.invokevirtual 22) 3 5 := ⟨by decide +kernel, rfl⟩
theorem d3_5 : D m3 5 (.aload_n 0) 1 6 := ⟨by decide +kernel, rfl⟩
theorem d3_6 : D m3 6 (.dup) 1 7 := ⟨by decide +kernel, rfl⟩
theorem d3_7 : D m3 7 (.getfield 18) 3 10 := ⟨by decide +kernel, rfl⟩
theorem d3_10 : D m3 10 (.iload_n 1) 1 11 := ⟨by decide +kernel, rfl⟩
theorem d3_11 : D m3 11 (.iadd) 1 12 := ⟨by decide +kernel, rfl⟩
theorem d3_12 : D m3 12 (.putfield 18) 3 15 := ⟨by decide +kernel, rfl⟩
theorem d3_15 : D m3 15 (.return_) 1 16 := ⟨by decide +kernel, rfl⟩
theorem d4_0 : D m4 0 (.aload_n 0) 1 1 := ⟨by decide +kernel, rfl⟩
theorem d4_1 : D m4 1 (.getfield 14) 3 4 := ⟨by decide +kernel, rfl⟩
theorem d4_4 : D m4 4 (.arraylength) 1 5 := ⟨by decide +kernel, rfl⟩
theorem d4_5 : D m4 5 (.aload_n 0) 1 6 := ⟨by decide +kernel, rfl⟩
theorem d4_6 : D m4 6 (.getfield 18) 3 9 := ⟨by decide +kernel, rfl⟩
theorem d4_9 : D m4 9 (.isub) 1 10 := ⟨by decide +kernel, rfl⟩
theorem d4_10 : D m4 10 (.iload_n 1) 1 11 := ⟨by decide +kernel, rfl⟩
theorem d4_11 : DB m4 11 (.if_icmp .ge 56) 56 14 67 := ⟨by decide +kernel, rfl, by decide, by decide⟩
theorem d4_14 : D m4 14 (.ldc2_w 67) 3 17 := ⟨by decide +kernel, rfl⟩
theorem d4_17 : D m4 17 (.aload_n 0) 1 18 := ⟨by decide +kernel, rfl⟩
theorem d4_18 : D m4 18 (.getfield 14) 3 21 := ⟨by decide +kernel, rfl⟩
theorem d4_21 : D m4 21 (.arraylength) 1 22 := ⟨by decide +kernel, rfl⟩
theorem d4_22 : D m4 22 (.i2l) 1 23 := ⟨by decide +kernel, rfl⟩
theorem d4_23 : D m4 23 (.lmul) 1 24 := ⟨by decide +kernel, rfl⟩
theorem d4_24 : D m4 24 (.aload_n 0) 1 25 := ⟨by decide +kernel, rfl⟩
theorem d4_25 : D m4 25 (.getfield 18) 3 28 := ⟨by decide +kernel, rfl⟩
theorem d4_28 : D m4 28 (.i2l) 1 29 := ⟨by decide +kernel, rfl⟩
theorem d4_29 : D m4 29 (.iload_n 1) 1 30 := ⟨by decide +kernel, rfl⟩
theorem d4_30 : D m4 30 (.i2l) 1 31 := ⟨by decide +kernel, rfl⟩
theorem d4_31 : D m4 31 (.ladd) 1 32 := ⟨by decide +kernel, rfl⟩
theorem d4_32 : D m4 32 (.invokestatic 69) 3 35 := ⟨by decide +kernel, rfl⟩
theorem d4_35 : D m4 35 (.lstore_n 2) 1 36 := ⟨by decide +kernel, rfl⟩
theorem d4_36 : D m4 36 (.lload_n 2) 1 37 := ⟨by decide +kernel, rfl⟩
theorem d4_37 : D m4 37 (.ldc2_w 77) 3 40 := ⟨by decide +kernel, rfl⟩
theorem d4_40 : D m4 40 (.lcmp) 1 41 := ⟨by decide +kernel, rfl⟩
theorem d4_41 : DB m4 41 (.ifCond .le 13) 13 44 54 := ⟨by decide +kernel, rfl, by decide, by decide⟩
theorem d4_44 : D m4 44 (.new 79) 3 47 := ⟨by decide +kernel, rfl⟩
theorem d4_47 : D m4 47 (.dup) 1 48 := ⟨by decide +kernel, rfl⟩
theorem d4_48 : D m4 48 (.ldc 81) 2 50 := ⟨by decide +kernel, rfl⟩
theorem d4_50 : D m4 50 (.invokespecial 83) 3 53 := ⟨by decide +kernel, rfl⟩
theorem d4_53 : D m4 53 (.athrow) 1 54 := ⟨by decide +kernel, rfl⟩
theorem d4_54 : D m4 54 (.aload_n 0) 1 55 := ⟨by decide +kernel, rfl⟩
theorem d4_55 : D m4 55 (.aload_n 0) 1 56 := ⟨by decide +kernel, rfl⟩
theorem d4_56 : D m4 56 (.getfield 14) 3 59 := ⟨by decide +kernel, rfl⟩
theorem d4_59 : D m4 59 (.lload_n 2) 1 60 := ⟨by decide +kernel, rfl⟩
theorem d4_60 : D m4 60 (.l2i) 1 61 := ⟨by decide +kernel, rfl⟩
theorem d4_61 : D m4 61 (.invokestatic 86) 3 64 := ⟨by decide +kernel, rfl⟩
theorem d4_64 : D m4 64 (.putfield 14) 3 67 := ⟨by decide +kernel, rfl⟩
theorem d4_67 : D m4 67 (.return_) 1 68 := ⟨by decide +kernel, rfl⟩
theorem d5_0 : D m5 0 (.aload_n 0) 1 1 := ⟨by decide +kernel, rfl⟩
theorem d5_1 : D m5 1 (.getfield 14) 3 4 := ⟨by decide +kernel, rfl⟩
theorem d5_4 : D m5 4 (.areturn) 1 5 := ⟨by decide +kernel, rfl⟩
theorem d6_0 : D m6 0 (.iload_n 1) 1 1 := ⟨by decide +kernel, rfl⟩
theorem d6_1 : D m6 1 (.istore 4) 2 3 := ⟨by decide +kernel, rfl⟩
theorem d6_3 : D m6 3 (.lload_n 2) 1 4 := ⟨by decide +kernel, rfl⟩
theorem d6_4 : D m6 4 (.lstore 5) 2 6 := ⟨by decide +kernel, rfl⟩
theorem d6_6 : D m6 6 (.lload 5) 2 8 := ⟨by decide +kernel, rfl⟩
theorem d6_8 : D m6 8 (.ldc2_w 31) 3 11 := ⟨by decide +kernel, rfl⟩
theorem d6_11 : D m6 11 (.land) 1 12 := ⟨by decide +kernel, rfl⟩
theorem d6_12 : D m6 12 (.lconst 0) 1 13 := ⟨by decide +kernel, rfl⟩
theorem d6_13 : D m6 13 (.lcmp) 1 14 := ⟨by decide +kernel, rfl⟩
theorem d6_14 : DB m6 14 (.ifCond .eq 35) 35 17 49 := ⟨by decide +kernel, rfl, by decide, by decide⟩
theorem d6_17 : D m6 17 (.aload_n 0) 1 18 := ⟨by decide +kernel, rfl⟩
theorem d6_18 : D m6 18 (.getfield 14) 3 21 := ⟨by decide +kernel, rfl⟩
theorem d6_21 : D m6 21 (.iload 4) 2 23 := ⟨by decide +kernel, rfl⟩
theorem d6_23 : D m6 23 (.iinc 4 1) 3 26 := ⟨by decide +kernel, rfl⟩
theorem d6_26 : D m6 26 (.lload 5) 2 28 := ⟨by decide +kernel, rfl⟩
theorem d6_28 : D m6 28 (.ldc2_w 44) 3 31 := ⟨by decide +kernel, rfl⟩
theorem d6_31 : D m6 31 (.land) 1 32 := ⟨by decide +kernel, rfl⟩
theorem d6_32 : D m6 32 (.ldc2_w 46) 3 35 := ⟨by decide +kernel, rfl⟩
theorem d6_35 : D m6 35 (.lor) 1 36 := ⟨by decide +kernel, rfl⟩
theorem d6_36 : D m6 36 (.l2i) 1 37 := ⟨by decide +kernel, rfl⟩
theorem d6_37 : D m6 37 (.i2b) 1 38 := ⟨by decide +kernel, rfl⟩
theorem d6_38 : D m6 38 (.bastore) 1 39 := ⟨by decide +kernel, rfl⟩
theorem d6_39 : D m6 39 (.lload 5) 2 41 := ⟨by decide +kernel, rfl⟩
theorem d6_41 : D m6 41 (.bipush 7) 2 43 := ⟨by decide +kernel, rfl⟩
theorem d6_43 : D m6 43 (.lushr) 1 44 := ⟨by decide +kernel, rfl⟩
theorem d6_44 : D m6 44 (.lstore 5) 2 46 := ⟨by decide +kernel, rfl⟩
theorem d6_46 : DB m6 46 (.goto (-40)) (-40) 49 6 := ⟨by decide +kernel, rfl, by decide, by decide⟩
theorem d6_49 : D m6 49 (.aload_n 0) 1 50 := ⟨by decide +kernel, rfl⟩
theorem d6_50 : D m6 50 (.getfield 14) 3 53 := ⟨by decide +kernel, rfl⟩
theorem d6_53 : D m6 53 (.iload 4) 2 55 := ⟨by decide +kernel, rfl⟩
theorem d6_55 : D m6 55 (.lload 5) 2 57 := ⟨by decide +kernel, rfl⟩
theorem d6_57 : D m6 57 (.l2i) 1 58 := ⟨by decide +kernel, rfl⟩
theorem d6_58 : D m6 58 (.i2b) 1 59 := ⟨by decide +kernel, rfl⟩
theorem d6_59 : D m6 59 (.bastore) 1 60 := ⟨by decide +kernel, rfl⟩
theorem d6_60 : D m6 60 (.return_) 1 61 := ⟨by decide +kernel, rfl⟩
theorem d7_0 : D m7 0 (.aload_n 0) 1 1 := ⟨by decide +kernel, rfl⟩
theorem d7_1 : D m7 1 (.getfield 18) 3 4 := ⟨by decide +kernel, rfl⟩
theorem d7_4 : D m7 4 (.ireturn) 1 5 := ⟨by decide +kernel, rfl⟩
theorem d8_0 : D m8 0 (.aload_n 0) 1 1 := ⟨by decide +kernel, rfl⟩
theorem d8_1 : D m8 1 (.iload_n 1) 1 2 := ⟨by decide +kernel, rfl⟩
theorem d8_2 : D m8 2 (.baload) 1 3 := ⟨by decide +kernel, rfl⟩
theorem d8_3 : D m8 3 (.lload_n 3) 1 4 := ⟨by decide +kernel, rfl⟩
theorem d8_4 : D m8 4 (.iload_n 1) 1 5 := ⟨by decide +kernel, rfl⟩
theorem d8_5 : D m8 5 (.iload_n 2) 1 6 := ⟨by decide +kernel, rfl⟩
theorem d8_6 : D m8 6 (.isub) 1 7 := ⟨by decide +kernel, rfl⟩
theorem d8_7 : D m8 7 (.iload 5) 2 9 := ⟨by decide +kernel, rfl⟩
theorem d8_9 : D m8 9 (.invokestatic 11) 3 12 := ⟨by decide +kernel, rfl⟩
theorem d8_12 : DB m8 12 (.if_icmp .ne 7) 7 15 19 := ⟨by decide +kernel, rfl, by decide, by decide⟩
theorem d8_15 : D m8 15 (.iconst 1) 1 16 := ⟨by decide +kernel, rfl⟩
theorem d8_16 : DB m8 16 (.goto 4) 4 19 20 := ⟨by decide +kernel, rfl, by decide, by decide⟩
theorem d8_19 : D m8 19 (.iconst 0) 1 20 := ⟨by decide +kernel, rfl⟩
theorem d8_20 : D m8 20 (.ireturn) 1 21 := ⟨by decide +kernel, rfl⟩
theorem d9_0 : D m9 0 (.iload_n 2) 1 1 := ⟨by decide +kernel, rfl⟩
theorem d9_1 : DB m9 1 (.ifCond .lt 9) 9 4 10 := ⟨by decide +kernel, rfl, by decide, by decide⟩
theorem d9_4 : D m9 4 (.iload_n 2) 1 5 := ⟨by decide +kernel, rfl⟩
theorem d9_5 : D m9 5 (.bipush 9) 2 7 := ⟨by decide +kernel, rfl⟩
theorem d9_7 : DB m9 7 (.if_icmp .le 5) 5 10 12 := ⟨by decide +kernel, rfl, by decide, by decide⟩
theorem d9_10 : D m9 10 (.iload_n 3) 1 11 := ⟨by decide +kernel, rfl⟩
theorem d9_11 : D m9 11 (.ireturn) 1 12 := ⟨by decide +kernel, rfl⟩
theorem d9_12 : D m9 12 (.lload_n 0) 1 13 := ⟨by decide +kernel, rfl⟩
theorem d9_13 : D m9 13 (.bipush 7) 2 15 := ⟨by decide +kernel, rfl⟩
theorem d9_15 : D m9 15 (.iload_n 2) 1 16 := ⟨by decide +kernel, rfl⟩
theorem d9_16 : D m9 16 (.imul) 1 17 := ⟨by decide +kernel, rfl⟩
theorem d9_17 : D m9 17 (.lushr) 1 18 := ⟨by decide +kernel, rfl⟩
theorem d9_18 : D m9 18 (.lstore 4) 2 20 := ⟨by decide +kernel, rfl⟩
theorem d9_20 : D m9 20 (.iload_n 2) 1 21 := ⟨by decide +kernel, rfl⟩
theorem d9_21 : DB m9 21 (.ifCond .le 12) 12 24 33 := ⟨by decide +kernel, rfl, by decide, by decide⟩
theorem d9_24 : D m9 24 (.lload 4) 2 26 := ⟨by decide +kernel, rfl⟩
theorem d9_26 : D m9 26 (.lconst 0) 1 27 := ⟨by decide +kernel, rfl⟩
theorem d9_27 : D m9 27 (.lcmp) 1 28 := ⟨by decide +kernel, rfl⟩
theorem d9_28 : DB m9 28 (.ifCond .ne 5) 5 31 33 := ⟨by decide +kernel, rfl, by decide, by decide⟩
theorem d9_31 : D m9 31 (.iload_n 3) 1 32 := ⟨by decide +kernel, rfl⟩
theorem d9_32 : D m9 32 (.ireturn) 1 33 := ⟨by decide +kernel, rfl⟩
theorem d9_33 : D m9 33 (.iload_n 2) 1 34 := ⟨by decide +kernel, rfl⟩
theorem d9_34 : D m9 34 (.bipush 9) 2 36 := ⟨by decide +kernel, rfl⟩
theorem d9_36 : DB m9 36 (.if_icmp .ge 20) 20 39 56 := ⟨by decide +kernel, rfl, by decide, by decide⟩
theorem d9_39 : D m9 39 (.lload_n 0) 1 40 := ⟨by decide +kernel, rfl⟩
theorem d9_40 : D m9 40 (.bipush 7) 2 42 := ⟨by decide +kernel, rfl⟩
theorem d9_42 : D m9 42 (.iload_n 2) 1 43 := ⟨by decide +kernel, rfl⟩
theorem d9_43 : D m9 43 (.iconst 1) 1 44 := ⟨by decide +kernel, rfl⟩
theorem d9_44 : D m9 44 (.iadd) 1 45 := ⟨by decide +kernel, rfl⟩
theorem d9_45 : D m9 45 (.imul) 1 46 := ⟨by decide +kernel, rfl⟩
theorem d9_46 : D m9 46 (.lushr) 1 47 := ⟨by decide +kernel, rfl⟩
theorem d9_47 : D m9 47 (.lconst 0) 1 48 := ⟨by decide +kernel, rfl⟩
theorem d9_48 : D m9 48 (.lcmp) 1 49 := ⟨by decide +kernel, rfl⟩
theorem d9_49 : DB m9 49 (.ifCond .eq 7) 7 52 56 := ⟨by decide +kernel, rfl, by decide, by decide⟩
theorem d9_52 : D m9 52 (.iconst 1) 1 53 := ⟨by decide +kernel, rfl⟩
theorem d9_53 : DB m9 53 (.goto 4) 4 56 57 := ⟨by decide +kernel, rfl, by decide, by decide⟩
theorem d9_56 : D m9 56 (.iconst 0) 1 57 := ⟨by decide +kernel, rfl⟩
theorem d9_57 : D m9 57 (.istore 6) 2 59 := ⟨by decide +kernel, rfl⟩
theorem d9_59 : D m9 59 (.iload 6) 2 61 := ⟨by decide +kernel, rfl⟩
theorem d9_61 : DB m9 61 (.ifCond .eq 16) 16 64 77 := ⟨by decide +kernel, rfl, by decide, by decide⟩
theorem d9_64 : D m9 64 (.lload 4) 2 66 := ⟨by decide +kernel, rfl⟩
theorem d9_66 : D m9 66 (.ldc2_w 7) 3 69 := ⟨by decide +kernel, rfl⟩
theorem d9_69 : D m9 69 (.land) 1 70 := ⟨by decide +kernel, rfl⟩
theorem d9_70 : D m9 70 (.ldc2_w 9) 3 73 := ⟨by decide +kernel, rfl⟩
theorem d9_73 : D m9 73 (.lor) 1 74 := ⟨by decide +kernel, rfl⟩
theorem d9_74 : D m9 74 (.l2i) 1 75 := ⟨by decide +kernel, rfl⟩
theorem d9_75 : D m9 75 (.i2b) 1 76 := ⟨by decide +kernel, rfl⟩
theorem d9_76 : D m9 76 (.ireturn) 1 77 := ⟨by decide +kernel, rfl⟩
theorem d9_77 : D m9 77 (.lload 4) 2 79 := ⟨by decide +kernel, rfl⟩
theorem d9_79 : D m9 79 (.l2i) 1 80 := ⟨by decide +kernel, rfl⟩
theorem d9_80 : D m9 80 (.i2b) 1 81 := ⟨by decide +kernel, rfl⟩
theorem d9_81 : D m9 81 (.ireturn) 1 82 := ⟨by decide +kernel, rfl⟩
theorem pn0 : plainName "com/example/reshelve/reshelve/io/parquet/RowBufferSetVarintPinLaw" = true := by first | (simp [plainName, overriddenIn]; done) | decide +kernel
theorem pn1 : plainName "com/example/reshelve/reshelve/io/parquet/RowBuffer" = true := by first | (simp [plainName, overriddenIn]; done) | decide +kernel
theorem pd1 : parseMethodDescriptor "(I)V" = some ⟨[.int], none⟩ := by decide +kernel
theorem ok1 {Z : State} {a0 : Array Value} (hw : ∀ d ∈ tables_1, d.before a0 Z = true) : OkM a0 Z m1 1 := ⟨hw _ (wd 5 rfl), hw _ (wd 2 rfl), plainFor_of_name pn1, ⟨by decide, by decide⟩, arity pd1 rfl⟩
theorem pd3 : parseMethodDescriptor "(I)V" = some ⟨[.int], none⟩ := by decide +kernel
theorem ok3 {Z : State} {a0 : Array Value} (hw : ∀ d ∈ tables_1, d.before a0 Z = true) : OkM a0 Z m3 1 := ⟨hw _ (wd 16 rfl), hw _ (wd 2 rfl), plainFor_of_name pn1, ⟨by decide, by decide⟩, arity pd3 rfl⟩
theorem pd4 : parseMethodDescriptor "(I)V" = some ⟨[.int], none⟩ := by decide +kernel
theorem ok4 {Z : State} {a0 : Array Value} (hw : ∀ d ∈ tables_1, d.before a0 Z = true) : OkM a0 Z m4 1 := ⟨hw _ (wd 20 rfl), hw _ (wd 2 rfl), plainFor_of_name pn1, ⟨by decide, by decide⟩, arity pd4 rfl⟩
theorem pd5 : parseMethodDescriptor "()[B" = some ⟨[], some (.array .byte)⟩ := by decide +kernel
theorem ok5 {Z : State} {a0 : Array Value} (hw : ∀ d ∈ tables_1, d.before a0 Z = true) : OkM a0 Z m5 0 := ⟨hw _ (wd 27 rfl), hw _ (wd 2 rfl), plainFor_of_name pn1, ⟨by decide, by decide⟩, arity pd5 rfl⟩
theorem pd6 : parseMethodDescriptor "(IJ)V" = some ⟨[.int, .long], none⟩ := by decide +kernel
theorem ok6 {Z : State} {a0 : Array Value} (hw : ∀ d ∈ tables_1, d.before a0 Z = true) : OkM a0 Z m6 2 := ⟨hw _ (wd 32 rfl), hw _ (wd 2 rfl), plainFor_of_name pn1, ⟨by decide, by decide⟩, arity pd6 rfl⟩
theorem pd7 : parseMethodDescriptor "()I" = some ⟨[], some .int⟩ := by decide +kernel
theorem ok7 {Z : State} {a0 : Array Value} (hw : ∀ d ∈ tables_1, d.before a0 Z = true) : OkM a0 Z m7 0 := ⟨hw _ (wd 38 rfl), hw _ (wd 2 rfl), plainFor_of_name pn1, ⟨by decide, by decide⟩, arity pd7 rfl⟩
theorem pd8 : parseMethodDescriptor "([BIIJB)Z" = some ⟨[(.array .byte), .int, .int, .long, .byte], some .boolean⟩ := by decide +kernel
theorem ok8 {Z : State} {a0 : Array Value} (hw : ∀ d ∈ tables_1, d.before a0 Z = true) : OkM a0 Z m8 5 := ⟨hw _ (wd 42 rfl), hw _ (wd 41 rfl), plainFor_of_name pn0, ⟨by decide, by decide⟩, arity pd8 rfl⟩
theorem pd9 : parseMethodDescriptor "(JIB)B" = some ⟨[.long, .int, .byte], some .byte⟩ := by decide +kernel
theorem ok9 {Z : State} {a0 : Array Value} (hw : ∀ d ∈ tables_1, d.before a0 Z = true) : OkM a0 Z m9 3 := ⟨hw _ (wd 45 rfl), hw _ (wd 41 rfl), plainFor_of_name pn0, ⟨by decide, by decide⟩, arity pd9 rfl⟩
def fs0 : List (Key × Value) := [(("com/example/reshelve/reshelve/io/parquet/RowBuffer", "bytes", "[B"), .null), (("com/example/reshelve/reshelve/io/parquet/RowBuffer", "length", "I"), .int 0)]
theorem okc0 {Z : State} {a0 : Array Value} (hw : ∀ d ∈ tables_1, d.before a0 Z = true) : OkC a0 Z "com/example/reshelve/reshelve/io/parquet/RowBuffer" 2 fs0 := by
  refine ⟨hw _ (wd 1 rfl), hw _ (wd 2 rfl), fun q hq => ?_, by simp [fs0]⟩
  simp only [fs0, List.mem_cons, List.not_mem_nil, or_false] at hq
  rcases hq with rfl | rfl
  · exact ⟨(.array .byte), Or.inl (hw _ (wd 11 rfl)), by decide, rfl⟩
  · exact ⟨.int, Or.inl (hw _ (wd 22 rfl)), by decide, rfl⟩
theorem own_bb (y : Int32) : y.toInt8.toInt32.toInt8.toInt32 = y.toInt8.toInt32 := by simp
theorem own_i {a : Nat} (h : a < 1000) : (Int32.ofNat a).toInt = a := Int32.toInt_ofNat_of_lt (by omega)
theorem own_isub {a b : Nat} (ha : a < 1000) (hb : b < 1000) : (Int32.ofNat a - Int32.ofNat b).toInt = a - b := by
  rw [Int32.toInt_sub, own_i ha, own_i hb]
  exact Int.bmod_eq_of_le (by omega) (by omega)
theorem own_sub_eq {a b : Nat} (hb : b ≤ a) (ha : a < 1000) : Int32.ofNat a - Int32.ofNat b = Int32.ofNat (a - b) := by
  apply Int32.toInt_inj.mp
  rw [own_isub ha (by omega), own_i (by omega)]
  omega
def own_sh (v : Int64) (i : Nat) : Int64 := XT.ushrL v (7 * Int32.ofNat i)
theorem own_7 (i : Nat) (h : i < 10) : ((7 * Int32.ofNat i).toInt64 &&& 63).toBitVec.toNat = 7 * i := by
  have hc : i = 0 ∨ i = 1 ∨ i = 2 ∨ i = 3 ∨ i = 4 ∨ i = 5 ∨ i = 6 ∨ i = 7 ∨ i = 8 ∨ i = 9 := by omega
  rcases hc with rfl | rfl | rfl | rfl | rfl | rfl | rfl | rfl | rfl | rfl <;> decide
theorem own_sh_bit (v : Int64) (i t : Nat) (h : i < 10) : (own_sh v i).toBitVec.getLsbD t = v.toBitVec.getLsbD (7 * i + t) := ushrL_bit (own_7 i h) t
theorem own_sh0 (v : Int64) : own_sh v 0 = v := bx64 fun i hi => by rw [own_sh_bit v 0 i (by omega), Nat.mul_zero, Nat.zero_add]
theorem own_sh7 (v : Int64) (i : Nat) (h : i < 9) : XT.ushrL (own_sh v i) 7 = own_sh v (i + 1) := bx64 fun t ht => by
  rw [ushrL_bit (k := 7) (m := 7) (by decide), own_sh_bit v i _ (by omega), own_sh_bit v (i + 1) _ (by omega)]
  congr 1; omega
theorem own_m128 (i : Nat) : (-128 : Int64).toBitVec.getLsbD i = (decide (i < 64) && !decide (i < 7)) := by
  have e : (-128 : Int64).toBitVec = ~~~ (127#64) := by decide
  rw [e, BitVec.getLsbD_not]
  have : (127#64).getLsbD i = decide (i < 7) := by
    have e2 : (127#64) = BitVec.ofNat 64 (2 ^ 7 - 1) := rfl
    rw [e2, BitVec.getLsbD_ofNat, Nat.testBit_two_pow_sub_one]
    by_cases h : i < 7 <;> simp [h]; omega
  rw [this]
theorem own_zero (x : Int64) : x = 0 ↔ ∀ t, t < 64 → x.toBitVec.getLsbD t = false := by
  constructor
  · intro h t _; subst h; show (0#64).getLsbD t = false; simp
  · intro h; apply bx64; intro t ht; rw [h t ht]; show false = (0#64).getLsbD t; simp
theorem own_cond (v : Int64) (i : Nat) (h : i < 9) : (own_sh v i &&& -128 = 0) ↔ own_sh v (i + 1) = 0 := by
  rw [own_zero, own_zero]
  constructor
  · intro q t ht
    rw [own_sh_bit v (i + 1) t (by omega)]
    by_cases c : t + 7 < 64
    · have := q (t + 7) c
      rw [andL_bit, own_m128, own_sh_bit v i _ (by omega)] at this
      rw [show 7 * (i + 1) + t = 7 * i + (t + 7) by omega]
      simpa [c, show ¬ (t + 7 < 7) by omega] using this
    · exact BitVec.getLsbD_of_ge _ _ (by omega)
  · intro q t ht
    rw [andL_bit, own_m128]
    by_cases c : t < 7
    · simp [c]
    · have := q (t - 7) (by omega)
      rw [own_sh_bit v (i + 1) _ (by omega), show 7 * (i + 1) + (t - 7) = 7 * i + t by omega] at this
      rw [own_sh_bit v i t (by omega), this]; simp
theorem own_end (v : Int64) : own_sh v 9 &&& -128 = 0 := by
  rw [own_zero]
  intro t ht
  rw [andL_bit, own_m128, own_sh_bit v 9 t (by omega)]
  by_cases c : t < 7
  · simp [c]
  · rw [BitVec.getLsbD_of_ge _ _ (by omega)] <;> rfl
def own_E (v : Int64) (k : Nat) : Int32 := ((own_sh v k &&& 127) ||| 128).toInt32.toInt8.toInt32
def own_T (v : Int64) (k : Nat) : Int32 := (own_sh v k).toInt32.toInt8.toInt32
def own_lj (v : Int64) (s i : Nat) (F : Int32) (j : Nat) : Int32 := if s ≤ j ∧ j < s + i then own_E v (j - s) else F
def own_fj (v : Int64) (s t : Nat) (F : Int32) (j : Nat) : Int32 := if j = s + t then own_T v t else own_lj v s t F j
theorem own_set {α : Type} (f f' : Nat → α) (m k : Nat) (hf : ∀ j, j ≠ m → f' j = f j) : ((List.range k).map f).set m (f' m) = (List.range k).map f' := by
  apply List.ext_getElem?
  intro j
  rw [List.getElem?_set, List.getElem?_map, List.getElem?_map]
  by_cases c : m = j
  · subst c
    simp only [if_true, List.length_map, List.length_range]
    by_cases d : m < k
    · rw [if_pos d, List.getElem?_range d] <;> rfl
    · rw [if_neg d, List.getElem?_eq_none (by simpa using d)] <;> rfl
  · rw [if_neg c]
    by_cases d : j < k
    · rw [List.getElem?_range d]; simp only [Option.map_some]; rw [hf j (fun q => c q.symm)]
    · rw [List.getElem?_eq_none (by simpa using d)] <;> rfl
theorem own_l0 (v : Int64) (s : Nat) (F : Int32) (j : Nat) : own_lj v s 0 F j = F := if_neg (by omega)
theorem own_lstep (v : Int64) (s i : Nat) (F : Int32) (j : Nat) (h : j ≠ s + i) : own_lj v s (i + 1) F j = own_lj v s i F j := by
  unfold own_lj
  by_cases c : s ≤ j ∧ j < s + i
  · rw [if_pos c, if_pos (by omega)]
  · rw [if_neg c, if_neg (by omega)]
theorem own_lat (v : Int64) (s i : Nat) (F : Int32) : own_lj v s (i + 1) F (s + i) = own_E v i := by
  unfold own_lj
  rw [if_pos (by omega), show s + i - s = i by omega]
def own_exp (v : Int64) (k F : Int32) : Int32 := if k < 0 then F else if 9 < k then F else if 0 < k ∧ XT.ushrL v (7 * k) = 0 then F else if k < 9 ∧ ¬ XT.ushrL v (7 * (k + 1)) = 0 then ((XT.ushrL v (7 * k) &&& 127) ||| 128).toInt32.toInt8.toInt32 else (XT.ushrL v (7 * k)).toInt32.toInt8.toInt32
theorem own_ofadd (a b : Nat) : Int32.ofNat a + Int32.ofNat b = Int32.ofNat (a + b) := (Int32.ofNat_add a b).symm
theorem own_shz (v : Int64) (a b : Nat) (h : a ≤ b) (hb : b < 10) (hz : own_sh v a = 0) : own_sh v b = 0 := by
  rw [own_zero] at hz ⊢
  intro t ht
  rw [own_sh_bit v b t hb]
  by_cases c : 7 * (b - a) + t < 64
  · have := hz (7 * (b - a) + t) c
    rw [own_sh_bit v a _ (by omega)] at this
    rw [show 7 * b + t = 7 * a + (7 * (b - a) + t) by omega]; exact this
  · exact BitVec.getLsbD_of_ge _ _ (by omega)
theorem own_match (v : Int64) (s t j : Nat) (F : Int32) (hs : s < 4) (ht : t < 10) (hj : j < 16) (h1 : ∀ k, k < t → ¬ own_sh v (k + 1) = 0) (h2 : t < 9 → own_sh v (t + 1) = 0) : own_fj v s t F j = own_exp v (Int32.ofNat j - Int32.ofNat s) F := by
  have z0 : (0 : Int32).toInt = 0 := rfl
  have z9 : (9 : Int32).toInt = 9 := rfl
  unfold own_exp
  by_cases c0 : j < s
  · rw [if_pos (by rw [Int32.lt_iff_toInt_lt, own_isub (by omega) (by omega)]; omega)]
    unfold own_fj own_lj
    rw [if_neg (by omega), if_neg (by omega)]
  · obtain ⟨k, rfl⟩ : ∃ k, j = s + k := ⟨j - s, by omega⟩
    rw [own_sub_eq (by omega) (by omega), show s + k - s = k by omega]
    have ek := own_i (a := k) (by omega)
    rw [if_neg (by rw [Int32.lt_iff_toInt_lt, ek]; omega)]
    by_cases c9 : 9 < k
    · rw [if_pos (by rw [Int32.lt_iff_toInt_lt, ek]; omega)]
      unfold own_fj own_lj
      rw [if_neg (by omega), if_neg (by omega)]
    · rw [if_neg (by rw [Int32.lt_iff_toInt_lt, ek]; omega)]
      have e1 : (0 < Int32.ofNat k) ↔ 0 < k := by rw [Int32.lt_iff_toInt_lt, ek]; omega
      have e2 : (Int32.ofNat k < 9) ↔ k < 9 := by rw [Int32.lt_iff_toInt_lt, ek]; omega
      have e3 : (7 * (Int32.ofNat k + 1) : Int32) = 7 * Int32.ofNat (k + 1) := by rw [← own_ofadd] <;> rfl
      rw [e3]
      show own_fj v s t F (s + k) = (if 0 < Int32.ofNat k ∧ own_sh v k = 0 then F else if Int32.ofNat k < 9 ∧ ¬ own_sh v (k + 1) = 0 then own_E v k else own_T v k)
      rcases Nat.lt_trichotomy k t with h | h | h
      · have n1 := h1 k h
        have n0 : ¬ (0 < Int32.ofNat k ∧ own_sh v k = 0) := fun q => h1 (k - 1) (by have := e1.mp q.1; omega) (by rw [show k - 1 + 1 = k by have := e1.mp q.1; omega]; exact q.2)
        rw [if_neg n0, if_pos ⟨e2.mpr (by omega), n1⟩]
        unfold own_fj own_lj
        rw [if_neg (by omega), if_pos (by omega), show s + k - s = k by omega]
      · subst h
        have n0 : ¬ (0 < Int32.ofNat k ∧ own_sh v k = 0) := fun q => h1 (k - 1) (by have := e1.mp q.1; omega) (by rw [show k - 1 + 1 = k by have := e1.mp q.1; omega]; exact q.2)
        rw [if_neg n0, if_neg (fun q => q.2 (h2 (e2.mp q.1)))]
        unfold own_fj
        rw [if_pos rfl]
      · rw [if_pos ⟨e1.mpr (by omega), own_shz v (t + 1) k (by omega) (by omega) (h2 (by omega))⟩]
        unfold own_fj own_lj
        rw [if_neg (by omega), if_neg (by omega)]
def own_l (v : Int64) (s i : Nat) (F : Int32) : List Value := (List.range 16).map fun j => Value.int (own_lj v s i F j)
def own_f (v : Int64) (s t : Nat) (F : Int32) : List Value := (List.range 16).map fun j => Value.int (own_fj v s t F j)
theorem own_len (v : Int64) (s i : Nat) (F : Int32) : (own_l v s i F).length = 16 := by simp [own_l]
theorem own_get (v : Int64) (s t : Nat) (F : Int32) (j : Nat) (h : j < 16) : (own_f v s t F)[j]? = some (.int (own_fj v s t F j)) := by
  unfold own_f
  rw [List.getElem?_map, List.getElem?_range h] <;> rfl
theorem own_lset (v : Int64) (s i : Nat) (F : Int32) : (own_l v s i F).set (s + i) (.int (own_E v i)) = own_l v s (i + 1) F := by
  have q := own_set (fun j => Value.int (own_lj v s i F j)) (fun j => Value.int (own_lj v s (i + 1) F j)) (s + i) 16 (fun j hj => by show Value.int _ = Value.int _; rw [own_lstep v s i F j hj])
  have e : Value.int (own_lj v s (i + 1) F (s + i)) = Value.int (own_E v i) := by rw [own_lat]
  rw [e] at q
  exact q
theorem own_fset (v : Int64) (s t : Nat) (F : Int32) : (own_l v s t F).set (s + t) (.int (own_T v t)) = own_f v s t F := by
  have q := own_set (fun j => Value.int (own_lj v s t F j)) (fun j => Value.int (own_fj v s t F j)) (s + t) 16 (fun j hj => by show Value.int _ = Value.int _; unfold own_fj; rw [if_neg hj])
  have e : Value.int (own_fj v s t F (s + t)) = Value.int (own_T v t) := by unfold own_fj; rw [if_pos rfl]
  rw [e] at q
  exact q
theorem own_lrep (v : Int64) (s : Nat) (F : Int32) : own_l v s 0 F = List.replicate 16 (.int F) := by
  unfold own_l
  rw [show (fun j => Value.int (own_lj v s 0 F j)) = fun _ => Value.int F from funext fun j => by rw [own_l0]]
  rfl
theorem own_idx (a : Nat) (h : a < 1000) : ¬ Int32.ofNat a < 0 ∧ (Int32.ofNat a).toNatClampNeg = a := by
  have e := own_i h
  refine ⟨?_, ?_⟩
  · rw [Int32.lt_iff_toInt_lt, e]; have : (0 : Int32).toInt = 0 := rfl; omega
  · show (Int32.ofNat a).toInt.toNat = a; rw [e] <;> rfl
theorem own_next (o i : Nat) : Int32.ofNat (o + i) + 1 = Int32.ofNat (o + (i + 1)) := own_ofadd (o + i) 1
set_option maxRecDepth 65536 in
set_option maxHeartbeats 40000000 in
theorem loop6 {l : Launch} {Z : State} {a0 : Array Value} {n : Nat} (hw : ∀ d ∈ tables_1, d.before a0 Z = true) (v : Int64) (s : Nat) (F : Int32) (hs : s < 4) : ∀ (r i : Nat), i + r = 9 → (∀ k, k < i → ¬ own_sh v (k + 1) = 0) → W l Z n m6 6 [(.val (.ref 0)), (.val (.int (Int32.ofNat s))), (.val (.long (v))), .second, (.val (.int (Int32.ofNat (s + i)))), (.val (.long (own_sh v i))), .second] [] [.inl ("com/example/reshelve/reshelve/io/parquet/RowBuffer", [(("com/example/reshelve/reshelve/io/parquet/RowBuffer", "bytes", "[B"), (.ref 1)), (("com/example/reshelve/reshelve/io/parquet/RowBuffer", "length", "I"), (.int (0 + 16)))]), .inr (.byte, own_l v s i (F.toInt8.toInt32))] 0 0 (fun w H' => w = none ∧ ∃ t, t < 10 ∧ (∀ k, k < t → ¬ own_sh v (k + 1) = 0) ∧ (t < 9 → own_sh v (t + 1) = 0) ∧ H' = [.inl ("com/example/reshelve/reshelve/io/parquet/RowBuffer", [(("com/example/reshelve/reshelve/io/parquet/RowBuffer", "bytes", "[B"), (.ref 1)), (("com/example/reshelve/reshelve/io/parquet/RowBuffer", "length", "I"), (.int (0 + 16)))]), .inr (.byte, own_f v s t (F.toInt8.toInt32))]) := by
  intro r
  induction r with
  | zero =>
    intro i hi hp
    refine W.lload d6_6 rfl ?_
    refine W.ldc2 d6_8 (hw _ (wd 33 rfl)) ?_
    refine W.land d6_11 ?_
    refine W.lconst 0 d6_12 rfl ?_
    refine W.lcmp d6_13 ?_
    refine W.ifl_eq d6_14 (fun h14 => ?_) (fun h => False.elim (h (by rw [show i = 9 by omega]; exact own_end v)))
    refine W.aloadN d6_49 rfl rfl ?_
    refine W.getfield 0 d6_50 (hw _ (wd 10 rfl)) rfl rfl ?_
    refine W.iload d6_53 rfl ?_
    refine W.lload d6_55 rfl ?_
    refine W.l2i d6_57 ?_
    refine W.i2b d6_58 ?_
    refine W.bastore (i := (s + i)) d6_59 rfl (own_idx _ (by omega)) (by rw [own_len]; omega) ?_
    exact W.leave d6_60 rfl (by decide) (by decide) (⟨rfl, i, by omega, hp, fun q => absurd q (by omega), by rw [← own_fset]; simp only [own_bb]; rfl⟩)
  | succ r ih =>
    intro i hi hp
    refine W.lload d6_6 rfl ?_
    refine W.ldc2 d6_8 (hw _ (wd 33 rfl)) ?_
    refine W.land d6_11 ?_
    refine W.lconst 0 d6_12 rfl ?_
    refine W.lcmp d6_13 ?_
    refine W.ifl_eq d6_14 (fun h14 => ?_) (fun h14 => ?_)
    · refine W.aloadN d6_49 rfl rfl ?_
      refine W.getfield 0 d6_50 (hw _ (wd 10 rfl)) rfl rfl ?_
      refine W.iload d6_53 rfl ?_
      refine W.lload d6_55 rfl ?_
      refine W.l2i d6_57 ?_
      refine W.i2b d6_58 ?_
      refine W.bastore (i := (s + i)) d6_59 rfl (own_idx _ (by omega)) (by rw [own_len]; omega) ?_
      exact W.leave d6_60 rfl (by decide) (by decide) (⟨rfl, i, by omega, hp, fun q => (own_cond v i q).mp h14, by rw [← own_fset]; simp only [own_bb]; rfl⟩)
    · refine W.aloadN d6_17 rfl rfl ?_
      refine W.getfield 0 d6_18 (hw _ (wd 10 rfl)) rfl rfl ?_
      refine W.iload d6_21 rfl ?_
      refine W.iinc 1 d6_23 rfl rfl ?_
      refine W.lload d6_26 rfl ?_
      refine W.ldc2 d6_28 (hw _ (wd 46 rfl)) ?_
      refine W.land d6_31 ?_
      refine W.ldc2 d6_32 (hw _ (wd 47 rfl)) ?_
      refine W.lor d6_35 ?_
      refine W.l2i d6_36 ?_
      refine W.i2b d6_37 ?_
      refine W.bastore (i := (s + i)) d6_38 rfl (own_idx _ (by omega)) (by rw [own_len]; omega) ?_
      refine W.lload d6_39 rfl ?_
      refine W.bipush 7 d6_41 rfl ?_
      refine W.lushr d6_43 ?_
      refine W.lstore d6_44 rfl ?_
      refine W.goto d6_46 ?_
      simp only [own_bb]
      rw [own_sh7 v i (by omega), own_next]
      have e := own_lset v s i (F.toInt8.toInt32)
      have q := ih (i + 1) (by omega) (fun k hk => (Nat.lt_or_eq_of_le (Nat.le_of_lt_succ hk)).elim (hp k) (fun z => by rw [z]; exact fun y => h14 ((own_cond v i (by omega)).mpr y)))
      rw [← e] at q
      exact q
set_option maxRecDepth 65536 in
set_option maxHeartbeats 40000000 in
theorem w6 {l : Launch} {Z : State} {a0 : Array Value} {n : Nat} (hw : ∀ d ∈ tables_1, d.before a0 Z = true) (v : Int64) (s : Nat) (F : Int32) (hs : s < 4) : W l Z n m6 0 (entryL [.ref 0, .int (Int32.ofNat s), .long v] 7) [] [.inl ("com/example/reshelve/reshelve/io/parquet/RowBuffer", [(("com/example/reshelve/reshelve/io/parquet/RowBuffer", "bytes", "[B"), (.ref 1)), (("com/example/reshelve/reshelve/io/parquet/RowBuffer", "length", "I"), (.int (0 + 16)))]), .inr (.byte, own_l v s 0 (F.toInt8.toInt32))] 0 0 (fun w H' => w = none ∧ ∃ t, t < 10 ∧ (∀ k, k < t → ¬ own_sh v (k + 1) = 0) ∧ (t < 9 → own_sh v (t + 1) = 0) ∧ H' = [.inl ("com/example/reshelve/reshelve/io/parquet/RowBuffer", [(("com/example/reshelve/reshelve/io/parquet/RowBuffer", "bytes", "[B"), (.ref 1)), (("com/example/reshelve/reshelve/io/parquet/RowBuffer", "length", "I"), (.int (0 + 16)))]), .inr (.byte, own_f v s t (F.toInt8.toInt32))]) := by
  show W l Z n m6 0 [(.val (.ref 0)), (.val (.int (Int32.ofNat s))), (.val (.long (v))), .second, .unset, .unset, .unset] [] [.inl ("com/example/reshelve/reshelve/io/parquet/RowBuffer", [(("com/example/reshelve/reshelve/io/parquet/RowBuffer", "bytes", "[B"), (.ref 1)), (("com/example/reshelve/reshelve/io/parquet/RowBuffer", "length", "I"), (.int (0 + 16)))]), .inr (.byte, own_l v s 0 (F.toInt8.toInt32))] 0 0 _
  refine W.iloadN d6_0 rfl ?_
  refine W.istore d6_1 rfl ?_
  refine W.lloadN d6_3 rfl ?_
  refine W.lstore d6_4 rfl ?_
  have q := loop6 (l := l) (n := n) hw v s F hs 9 0 rfl (fun k hk => absurd hk (Nat.not_lt_zero k))
  simp only [own_sh0, Nat.add_zero] at q
  exact q
section
variable {v : Int64} {k F : Int32}
theorem own_e1 (h1 : k < 0) : own_exp v k F = F := if_pos h1
theorem own_e2 (h1 : ¬ k < 0) (h2 : 9 < k) : own_exp v k F = F := by unfold own_exp; rw [if_neg h1, if_pos h2]
theorem own_e3 (h1 : ¬ k < 0) (h2 : ¬ 9 < k) (h3 : 0 < k) (h4 : XT.ushrL v (7 * k) = 0) : own_exp v k F = F := by unfold own_exp; rw [if_neg h1, if_neg h2, if_pos ⟨h3, h4⟩]
theorem own_e4 (h1 : ¬ k < 0) (h2 : ¬ 9 < k) (h3 : ¬ (0 < k ∧ XT.ushrL v (7 * k) = 0)) (h5 : k < 9) (h6 : ¬ XT.ushrL v (7 * (k + 1)) = 0) : own_exp v k F = ((XT.ushrL v (7 * k) &&& 127) ||| 128).toInt32.toInt8.toInt32 := by unfold own_exp; rw [if_neg h1, if_neg h2, if_neg h3, if_pos ⟨h5, h6⟩]
theorem own_e5 (h1 : ¬ k < 0) (h2 : ¬ 9 < k) (h3 : ¬ (0 < k ∧ XT.ushrL v (7 * k) = 0)) (h5 : ¬ (k < 9 ∧ ¬ XT.ushrL v (7 * (k + 1)) = 0)) : own_exp v k F = (XT.ushrL v (7 * k)).toInt32.toInt8.toInt32 := by unfold own_exp; rw [if_neg h1, if_neg h2, if_neg h3, if_neg h5]
end
set_option maxRecDepth 65536 in
set_option maxHeartbeats 40000000 in
theorem w9 {l : Launch} {Z : State} {a0 : Array Value} {n : Nat} (hw : ∀ d ∈ tables_1, d.before a0 Z = true) (v : Int64) (k F : Int32) (H : AHeap) : W l Z n m9 0 (entryL [.long v, .int k, .int (F.toInt8.toInt32)] 7) [] H 0 0 (Is (some (.int (own_exp v k (F.toInt8.toInt32)))) H) := by
  show W l Z n m9 0 [(.val (.long (v))), .second, (.val (.int (k))), (.val (.int (F.toInt8.toInt32))), .unset, .unset, .unset] [] H 0 0 _
  refine W.iloadN d9_0 rfl ?_
  refine W.if_lt d9_1 (fun h1 => ?_) (fun h1 => ?_)
  · refine W.iloadN d9_10 rfl ?_
    exact W.nreturn .byte d9_11 rfl (by simp) (by decide) (by decide) (⟨by rw [nar_byte, own_e1 h1] <;> rfl, rfl⟩)
  · refine W.iloadN d9_4 rfl ?_
    refine W.bipush 9 d9_5 rfl ?_
    refine W.icmp_le d9_7 (fun h7 => ?_) (fun h7 => ?_)
    · refine W.lloadN d9_12 rfl ?_
      refine W.bipush 7 d9_13 rfl ?_
      refine W.iloadN d9_15 rfl ?_
      refine W.imul d9_16 ?_
      refine W.lushr d9_17 ?_
      refine W.lstore d9_18 rfl ?_
      refine W.iloadN d9_20 rfl ?_
      refine W.if_le d9_21 (fun h21 => ?_) (fun h21 => ?_)
      · refine W.iloadN d9_33 rfl ?_
        refine W.bipush 9 d9_34 rfl ?_
        refine W.icmp_ge d9_36 (fun h36 => ?_) (fun h36 => ?_)
        · refine W.iconst 0 d9_56 rfl ?_
          refine W.istore d9_57 rfl ?_
          refine W.iload d9_59 rfl ?_
          refine W.if_eq d9_61 (fun h61 => ?_) (fun h => False.elim (by revert h; decide))
          refine W.lload d9_77 rfl ?_
          refine W.l2i d9_79 ?_
          refine W.i2b d9_80 ?_
          exact W.nreturn .byte d9_81 rfl (by simp) (by decide) (by decide) (⟨by rw [nar_byte, own_e5 h1 h7 (fun q => h21 q.1) (fun q => h36 q.1)] <;> rfl, rfl⟩)
        · refine W.lloadN d9_39 rfl ?_
          refine W.bipush 7 d9_40 rfl ?_
          refine W.iloadN d9_42 rfl ?_
          refine W.iconst 1 d9_43 rfl ?_
          refine W.iadd d9_44 ?_
          refine W.imul d9_45 ?_
          refine W.lushr d9_46 ?_
          refine W.lconst 0 d9_47 rfl ?_
          refine W.lcmp d9_48 ?_
          refine W.ifl_eq d9_49 (fun h49 => ?_) (fun h49 => ?_)
          · refine W.iconst 0 d9_56 rfl ?_
            refine W.istore d9_57 rfl ?_
            refine W.iload d9_59 rfl ?_
            refine W.if_eq d9_61 (fun h61 => ?_) (fun h => False.elim (by revert h; decide))
            refine W.lload d9_77 rfl ?_
            refine W.l2i d9_79 ?_
            refine W.i2b d9_80 ?_
            exact W.nreturn .byte d9_81 rfl (by simp) (by decide) (by decide) (⟨by rw [nar_byte, own_e5 h1 h7 (fun q => h21 q.1) (fun q => q.2 h49)] <;> rfl, rfl⟩)
          · refine W.iconst 1 d9_52 rfl ?_
            refine W.goto d9_53 ?_
            refine W.istore d9_57 rfl ?_
            refine W.iload d9_59 rfl ?_
            refine W.if_eq d9_61 (fun h => False.elim (by revert h; decide)) (fun h61 => ?_)
            refine W.lload d9_64 rfl ?_
            refine W.ldc2 d9_66 (hw _ (wd 48 rfl)) ?_
            refine W.land d9_69 ?_
            refine W.ldc2 d9_70 (hw _ (wd 49 rfl)) ?_
            refine W.lor d9_73 ?_
            refine W.l2i d9_74 ?_
            refine W.i2b d9_75 ?_
            exact W.nreturn .byte d9_76 rfl (by simp) (by decide) (by decide) (⟨by rw [nar_byte, own_e4 h1 h7 (fun q => h21 q.1) h36 h49] <;> rfl, rfl⟩)
      · refine W.lload d9_24 rfl ?_
        refine W.lconst 0 d9_26 rfl ?_
        refine W.lcmp d9_27 ?_
        refine W.ifl_ne d9_28 (fun h28 => ?_) (fun h28 => ?_)
        · refine W.iloadN d9_33 rfl ?_
          refine W.bipush 9 d9_34 rfl ?_
          refine W.icmp_ge d9_36 (fun h36 => ?_) (fun h36 => ?_)
          · refine W.iconst 0 d9_56 rfl ?_
            refine W.istore d9_57 rfl ?_
            refine W.iload d9_59 rfl ?_
            refine W.if_eq d9_61 (fun h61 => ?_) (fun h => False.elim (by revert h; decide))
            refine W.lload d9_77 rfl ?_
            refine W.l2i d9_79 ?_
            refine W.i2b d9_80 ?_
            exact W.nreturn .byte d9_81 rfl (by simp) (by decide) (by decide) (⟨by rw [nar_byte, own_e5 h1 h7 (fun q => h28 q.2) (fun q => h36 q.1)] <;> rfl, rfl⟩)
          · refine W.lloadN d9_39 rfl ?_
            refine W.bipush 7 d9_40 rfl ?_
            refine W.iloadN d9_42 rfl ?_
            refine W.iconst 1 d9_43 rfl ?_
            refine W.iadd d9_44 ?_
            refine W.imul d9_45 ?_
            refine W.lushr d9_46 ?_
            refine W.lconst 0 d9_47 rfl ?_
            refine W.lcmp d9_48 ?_
            refine W.ifl_eq d9_49 (fun h49 => ?_) (fun h49 => ?_)
            · refine W.iconst 0 d9_56 rfl ?_
              refine W.istore d9_57 rfl ?_
              refine W.iload d9_59 rfl ?_
              refine W.if_eq d9_61 (fun h61 => ?_) (fun h => False.elim (by revert h; decide))
              refine W.lload d9_77 rfl ?_
              refine W.l2i d9_79 ?_
              refine W.i2b d9_80 ?_
              exact W.nreturn .byte d9_81 rfl (by simp) (by decide) (by decide) (⟨by rw [nar_byte, own_e5 h1 h7 (fun q => h28 q.2) (fun q => q.2 h49)] <;> rfl, rfl⟩)
            · refine W.iconst 1 d9_52 rfl ?_
              refine W.goto d9_53 ?_
              refine W.istore d9_57 rfl ?_
              refine W.iload d9_59 rfl ?_
              refine W.if_eq d9_61 (fun h => False.elim (by revert h; decide)) (fun h61 => ?_)
              refine W.lload d9_64 rfl ?_
              refine W.ldc2 d9_66 (hw _ (wd 48 rfl)) ?_
              refine W.land d9_69 ?_
              refine W.ldc2 d9_70 (hw _ (wd 49 rfl)) ?_
              refine W.lor d9_73 ?_
              refine W.l2i d9_74 ?_
              refine W.i2b d9_75 ?_
              exact W.nreturn .byte d9_76 rfl (by simp) (by decide) (by decide) (⟨by rw [nar_byte, own_e4 h1 h7 (fun q => h28 q.2) h36 h49] <;> rfl, rfl⟩)
        · refine W.iloadN d9_31 rfl ?_
          exact W.nreturn .byte d9_32 rfl (by simp) (by decide) (by decide) (⟨by rw [nar_byte, own_e3 h1 h7 h21 h28] <;> rfl, rfl⟩)
    · refine W.iloadN d9_10 rfl ?_
      exact W.nreturn .byte d9_11 rfl (by simp) (by decide) (by decide) (⟨by rw [nar_byte, own_e2 h1 h7] <;> rfl, rfl⟩)
set_option maxRecDepth 65536 in
set_option maxHeartbeats 40000000 in
theorem w8 {l : Launch} {Z : State} {a0 : Array Value} {n : Nat} (hw : ∀ d ∈ tables_1, d.before a0 Z = true) (v : Int64) (s : Nat) (F : Int32) (hs : s < 4) (t j : Nat) (ht : t < 10) (hj : j < 16) (h1 : ∀ k, k < t → ¬ own_sh v (k + 1) = 0) (h2 : t < 9 → own_sh v (t + 1) = 0) : W l Z n m8 0 (entryL [.ref 1, .int (Int32.ofNat j), .int (Int32.ofNat s), .long v, .int (F.toInt8.toInt32)] 6) [] [.inl ("com/example/reshelve/reshelve/io/parquet/RowBuffer", [(("com/example/reshelve/reshelve/io/parquet/RowBuffer", "bytes", "[B"), (.ref 1)), (("com/example/reshelve/reshelve/io/parquet/RowBuffer", "length", "I"), (.int (0 + 16)))]), .inr (.byte, own_f v s t (F.toInt8.toInt32))] 0 0 (Is (some (.int 1)) [.inl ("com/example/reshelve/reshelve/io/parquet/RowBuffer", [(("com/example/reshelve/reshelve/io/parquet/RowBuffer", "bytes", "[B"), (.ref 1)), (("com/example/reshelve/reshelve/io/parquet/RowBuffer", "length", "I"), (.int (0 + 16)))]), .inr (.byte, own_f v s t (F.toInt8.toInt32))]) := by
  show W l Z n m8 0 [(.val (.ref 1)), (.val (.int (Int32.ofNat j))), (.val (.int (Int32.ofNat s))), (.val (.long (v))), .second, (.val (.int (F.toInt8.toInt32)))] [] [.inl ("com/example/reshelve/reshelve/io/parquet/RowBuffer", [(("com/example/reshelve/reshelve/io/parquet/RowBuffer", "bytes", "[B"), (.ref 1)), (("com/example/reshelve/reshelve/io/parquet/RowBuffer", "length", "I"), (.int (0 + 16)))]), .inr (.byte, own_f v s t (F.toInt8.toInt32))] 0 0 _
  refine W.aloadN d8_0 rfl rfl ?_
  refine W.iloadN d8_1 rfl ?_
  refine W.baload (i := j) d8_2 rfl (own_idx _ (by omega)) (own_get v s t _ j hj) ?_
  refine W.lloadN d8_3 rfl ?_
  refine W.iloadN d8_4 rfl ?_
  refine W.iloadN d8_5 rfl ?_
  refine W.isub d8_6 ?_
  refine W.iload d8_7 rfl ?_
  refine W.callsV (M' := m9) d8_9 (hw _ (wd 43 rfl)) (hw _ (wd 44 rfl)) (w9 hw v _ F _) (ok9 hw) rfl rfl rfl ?_
  refine W.icmp_ne d8_12 (fun h => False.elim (h (own_match v s t j _ hs ht hj h1 h2))) (fun h12 => ?_)
  refine W.iconst 1 d8_15 rfl ?_
  refine W.goto d8_16 ?_
  exact W.nreturn .boolean d8_20 rfl (by simp) (by decide) (by decide) (⟨rfl, rfl⟩)
set_option maxRecDepth 65536 in
set_option maxHeartbeats 40000000 in
theorem c1_0 {l : Launch} {Z : State} {a0 : Array Value} {n : Nat} (hw : ∀ d ∈ tables_1, d.before a0 Z = true) : W l Z n m1 0 (entryL [(.ref 0), (.int (16))] 2) [] [.inl ("com/example/reshelve/reshelve/io/parquet/RowBuffer", [(("com/example/reshelve/reshelve/io/parquet/RowBuffer", "bytes", "[B"), .null), (("com/example/reshelve/reshelve/io/parquet/RowBuffer", "length", "I"), (.int (0)))])] 0 0 (Is none [.inl ("com/example/reshelve/reshelve/io/parquet/RowBuffer", [(("com/example/reshelve/reshelve/io/parquet/RowBuffer", "bytes", "[B"), (.ref 1)), (("com/example/reshelve/reshelve/io/parquet/RowBuffer", "length", "I"), (.int (0)))]), .inr (.byte, [(.int (0)), (.int (0)), (.int (0)), (.int (0)), (.int (0)), (.int (0)), (.int (0)), (.int (0)), (.int (0)), (.int (0)), (.int (0)), (.int (0)), (.int (0)), (.int (0)), (.int (0)), (.int (0))])]) := by
  show W l Z n m1 0 [(.val (.ref 0)), (.val (.int (16)))] [] [.inl ("com/example/reshelve/reshelve/io/parquet/RowBuffer", [(("com/example/reshelve/reshelve/io/parquet/RowBuffer", "bytes", "[B"), .null), (("com/example/reshelve/reshelve/io/parquet/RowBuffer", "length", "I"), (.int (0)))])] 0 0 _
  refine W.aloadN d1_0 rfl rfl ?_
  refine W.initO d1_1 (hw _ (wd 6 rfl)) (hw _ (wd 7 rfl)) (hw _ (wd 8 rfl)) rfl rfl ?_
  refine W.aloadN d1_4 rfl rfl ?_
  refine W.iloadN d1_5 rfl ?_
  refine W.newarray (N := 1) (cnt := 16) (cap := 16) d1_6 (hw _ (wd 9 rfl)) ⟨by decide, by decide⟩ rfl (Nat.le_refl _) (by decide) (by decide) (by decide) ?_
  refine W.putfield 0 d1_8 (hw _ (wd 10 rfl)) rfl rfl (Or.inl (hw _ (wd 11 rfl))) (hw _ (wd 1 rfl)) (ty := (.array .byte)) (by decide) (fun _ => rfl) (fun _ => rfl) ?_
  exact W.leave d1_11 rfl (by decide) (by decide) (⟨rfl, rfl⟩)
set_option maxRecDepth 65536 in
set_option maxHeartbeats 40000000 in
theorem c4_1 {l : Launch} {Z : State} {a0 : Array Value} {n : Nat} (hw : ∀ d ∈ tables_1, d.before a0 Z = true) : W l Z n m4 0 (entryL [(.ref 0), (.int (16))] 4) [] [.inl ("com/example/reshelve/reshelve/io/parquet/RowBuffer", [(("com/example/reshelve/reshelve/io/parquet/RowBuffer", "bytes", "[B"), (.ref 1)), (("com/example/reshelve/reshelve/io/parquet/RowBuffer", "length", "I"), (.int (0)))]), .inr (.byte, [(.int (0)), (.int (0)), (.int (0)), (.int (0)), (.int (0)), (.int (0)), (.int (0)), (.int (0)), (.int (0)), (.int (0)), (.int (0)), (.int (0)), (.int (0)), (.int (0)), (.int (0)), (.int (0))])] 0 0 (Is none [.inl ("com/example/reshelve/reshelve/io/parquet/RowBuffer", [(("com/example/reshelve/reshelve/io/parquet/RowBuffer", "bytes", "[B"), (.ref 1)), (("com/example/reshelve/reshelve/io/parquet/RowBuffer", "length", "I"), (.int (0)))]), .inr (.byte, [(.int (0)), (.int (0)), (.int (0)), (.int (0)), (.int (0)), (.int (0)), (.int (0)), (.int (0)), (.int (0)), (.int (0)), (.int (0)), (.int (0)), (.int (0)), (.int (0)), (.int (0)), (.int (0))])]) := by
  show W l Z n m4 0 [(.val (.ref 0)), (.val (.int (16))), .unset, .unset] [] [.inl ("com/example/reshelve/reshelve/io/parquet/RowBuffer", [(("com/example/reshelve/reshelve/io/parquet/RowBuffer", "bytes", "[B"), (.ref 1)), (("com/example/reshelve/reshelve/io/parquet/RowBuffer", "length", "I"), (.int (0)))]), .inr (.byte, [(.int (0)), (.int (0)), (.int (0)), (.int (0)), (.int (0)), (.int (0)), (.int (0)), (.int (0)), (.int (0)), (.int (0)), (.int (0)), (.int (0)), (.int (0)), (.int (0)), (.int (0)), (.int (0))])] 0 0 _
  refine W.aloadN d4_0 rfl rfl ?_
  refine W.getfield 0 d4_1 (hw _ (wd 10 rfl)) rfl rfl ?_
  refine W.arraylength 16 d4_4 rfl rfl rfl ?_
  refine W.aloadN d4_5 rfl rfl ?_
  refine W.getfield 1 d4_6 (hw _ (wd 21 rfl)) rfl rfl ?_
  refine W.isub d4_9 ?_
  refine W.iloadN d4_10 rfl ?_
  refine W.icmp_ge d4_11 (fun h11 => ?_) (fun h => False.elim (by revert h; decide))
  exact W.leave d4_67 rfl (by decide) (by decide) (⟨rfl, rfl⟩)
set_option maxRecDepth 65536 in
set_option maxHeartbeats 40000000 in
theorem c3_2 {l : Launch} {Z : State} {a0 : Array Value} {n : Nat} (hw : ∀ d ∈ tables_1, d.before a0 Z = true) : W l Z n m3 0 (entryL [(.ref 0), (.int (16))] 2) [] [.inl ("com/example/reshelve/reshelve/io/parquet/RowBuffer", [(("com/example/reshelve/reshelve/io/parquet/RowBuffer", "bytes", "[B"), (.ref 1)), (("com/example/reshelve/reshelve/io/parquet/RowBuffer", "length", "I"), (.int (0)))]), .inr (.byte, [(.int (0)), (.int (0)), (.int (0)), (.int (0)), (.int (0)), (.int (0)), (.int (0)), (.int (0)), (.int (0)), (.int (0)), (.int (0)), (.int (0)), (.int (0)), (.int (0)), (.int (0)), (.int (0))])] 0 0 (Is none [.inl ("com/example/reshelve/reshelve/io/parquet/RowBuffer", [(("com/example/reshelve/reshelve/io/parquet/RowBuffer", "bytes", "[B"), (.ref 1)), (("com/example/reshelve/reshelve/io/parquet/RowBuffer", "length", "I"), (.int (0 + 16)))]), .inr (.byte, [(.int (0)), (.int (0)), (.int (0)), (.int (0)), (.int (0)), (.int (0)), (.int (0)), (.int (0)), (.int (0)), (.int (0)), (.int (0)), (.int (0)), (.int (0)), (.int (0)), (.int (0)), (.int (0))])]) := by
  show W l Z n m3 0 [(.val (.ref 0)), (.val (.int (16)))] [] [.inl ("com/example/reshelve/reshelve/io/parquet/RowBuffer", [(("com/example/reshelve/reshelve/io/parquet/RowBuffer", "bytes", "[B"), (.ref 1)), (("com/example/reshelve/reshelve/io/parquet/RowBuffer", "length", "I"), (.int (0)))]), .inr (.byte, [(.int (0)), (.int (0)), (.int (0)), (.int (0)), (.int (0)), (.int (0)), (.int (0)), (.int (0)), (.int (0)), (.int (0)), (.int (0)), (.int (0)), (.int (0)), (.int (0)), (.int (0)), (.int (0))])] 0 0 _
  refine W.aloadN d3_0 rfl rfl ?_
  refine W.iloadN d3_1 rfl ?_
  refine W.callpN (M' := m4) d3_2 (hw _ (wd 17 rfl)) (hw _ (wd 18 rfl)) (hw _ (wd 19 rfl)) (hw _ (wd 1 rfl)) (c4_1 hw) (ok4 hw) rfl rfl rfl rfl ?_
  refine W.aloadN d3_5 rfl rfl ?_
  refine W.dup d3_6 rfl ?_
  refine W.getfield 1 d3_7 (hw _ (wd 21 rfl)) rfl rfl ?_
  refine W.iloadN d3_10 rfl ?_
  refine W.iadd d3_11 ?_
  refine W.putfield 1 d3_12 (hw _ (wd 21 rfl)) rfl rfl (Or.inl (hw _ (wd 22 rfl))) (hw _ (wd 1 rfl)) (ty := .int) (by decide) (fun _ => rfl) (fun _ => rfl) ?_
  exact W.leave d3_15 rfl (by decide) (by decide) (⟨rfl, rfl⟩)
set_option maxRecDepth 65536 in
set_option maxHeartbeats 40000000 in
theorem c5_3 {l : Launch} {Z : State} {a0 : Array Value} {n : Nat} (hw : ∀ d ∈ tables_1, d.before a0 Z = true) : W l Z n m5 0 (entryL [(.ref 0)] 1) [] [.inl ("com/example/reshelve/reshelve/io/parquet/RowBuffer", [(("com/example/reshelve/reshelve/io/parquet/RowBuffer", "bytes", "[B"), (.ref 1)), (("com/example/reshelve/reshelve/io/parquet/RowBuffer", "length", "I"), (.int (16)))]), .inr (.byte, [(.int (0)), (.int (0)), (.int (0)), (.int (0)), (.int (0)), (.int (0)), (.int (0)), (.int (0)), (.int (0)), (.int (0)), (.int (0)), (.int (0)), (.int (0)), (.int (0)), (.int (0)), (.int (0))])] 0 0 (Is (some (.ref 1)) [.inl ("com/example/reshelve/reshelve/io/parquet/RowBuffer", [(("com/example/reshelve/reshelve/io/parquet/RowBuffer", "bytes", "[B"), (.ref 1)), (("com/example/reshelve/reshelve/io/parquet/RowBuffer", "length", "I"), (.int (16)))]), .inr (.byte, [(.int (0)), (.int (0)), (.int (0)), (.int (0)), (.int (0)), (.int (0)), (.int (0)), (.int (0)), (.int (0)), (.int (0)), (.int (0)), (.int (0)), (.int (0)), (.int (0)), (.int (0)), (.int (0))])]) := by
  show W l Z n m5 0 [(.val (.ref 0))] [] [.inl ("com/example/reshelve/reshelve/io/parquet/RowBuffer", [(("com/example/reshelve/reshelve/io/parquet/RowBuffer", "bytes", "[B"), (.ref 1)), (("com/example/reshelve/reshelve/io/parquet/RowBuffer", "length", "I"), (.int (16)))]), .inr (.byte, [(.int (0)), (.int (0)), (.int (0)), (.int (0)), (.int (0)), (.int (0)), (.int (0)), (.int (0)), (.int (0)), (.int (0)), (.int (0)), (.int (0)), (.int (0)), (.int (0)), (.int (0)), (.int (0))])] 0 0 _
  refine W.aloadN d5_0 rfl rfl ?_
  refine W.getfield 0 d5_1 (hw _ (wd 10 rfl)) rfl rfl ?_
  exact W.areturn d5_4 rfl rfl rfl (by decide) (by decide) (⟨rfl, rfl⟩)
set_option maxRecDepth 65536 in
set_option maxHeartbeats 40000000 in
theorem c7_4 {l : Launch} {Z : State} {a0 : Array Value} {n : Nat} (hw : ∀ d ∈ tables_1, d.before a0 Z = true) (l0 : List Value) : W l Z n m7 0 (entryL [(.ref 0)] 1) [] [.inl ("com/example/reshelve/reshelve/io/parquet/RowBuffer", [(("com/example/reshelve/reshelve/io/parquet/RowBuffer", "bytes", "[B"), (.ref 1)), (("com/example/reshelve/reshelve/io/parquet/RowBuffer", "length", "I"), (.int (16)))]), .inr (.byte, l0)] 0 0 (Is (some (.int (16))) [.inl ("com/example/reshelve/reshelve/io/parquet/RowBuffer", [(("com/example/reshelve/reshelve/io/parquet/RowBuffer", "bytes", "[B"), (.ref 1)), (("com/example/reshelve/reshelve/io/parquet/RowBuffer", "length", "I"), (.int (16)))]), .inr (.byte, l0)]) := by
  show W l Z n m7 0 [(.val (.ref 0))] [] [.inl ("com/example/reshelve/reshelve/io/parquet/RowBuffer", [(("com/example/reshelve/reshelve/io/parquet/RowBuffer", "bytes", "[B"), (.ref 1)), (("com/example/reshelve/reshelve/io/parquet/RowBuffer", "length", "I"), (.int (16)))]), .inr (.byte, l0)] 0 0 _
  refine W.aloadN d7_0 rfl rfl ?_
  refine W.getfield 1 d7_1 (hw _ (wd 21 rfl)) rfl rfl ?_
  exact W.ireturn d7_4 rfl (by decide) (by decide) (⟨rfl, rfl⟩)
set_option maxRecDepth 65536 in
set_option maxHeartbeats 40000000 in
theorem w_law {l : Launch} {Z : State} {a0 : Array Value} {n : Nat} (hw : ∀ d ∈ tables_1, d.before a0 Z = true) (v0 : Int64) (s0 a F : Int32) : W l Z n m0 0 (entryL [.long v0, .int s0, .int a, .int F] 12) [] [] 0 0 (fun v _ => v = some (.int 1)) := by
  show W l Z n m0 0 [(.val (.long (v0))), .second, (.val (.int (s0))), (.val (.int (a))), (.val (.int (F))), .unset, .unset, .unset, .unset, .unset, .unset, .unset] [] [] 0 0 _
  refine W.lloadN d0_0 rfl ?_
  refine W.iloadN d0_1 rfl ?_
  refine W.bipush 63 d0_2 rfl ?_
  refine W.iand d0_4 ?_
  refine W.lushr d0_5 ?_
  generalize XT.ushrL v0 (s0 &&& 63) = v
  refine W.lstore d0_6 rfl ?_
  refine W.iloadN d0_8 rfl ?_
  refine W.iconst 3 d0_9 rfl ?_
  refine W.iand d0_10 ?_
  obtain ⟨s, hs, es⟩ : ∃ s, s < 4 ∧ a &&& 3 = Int32.ofNat s := ⟨_, Nat.lt_succ_of_le (and_nat a 3 3 rfl), of_nat32 rfl⟩
  rw [es]
  refine W.istore d0_11 rfl ?_
  refine W.iload d0_13 rfl ?_
  refine W.i2b d0_15 ?_
  refine W.istore d0_16 rfl ?_
  refine W.new (N := 0) d0_18 (hw _ (wd 0 rfl)) (okc0 hw) rfl (by decide) (by decide) ?_
  show WB _ l Z n m0 21 [(.val (.long (v0))), .second, (.val (.int (s0))), (.val (.int (a))), (.val (.int (F))), (.val (.long (v))), .second, (.val (.int (Int32.ofNat s))), (.val (.int (F.toInt8.toInt32))), .unset, .unset, .unset] [(.ref 0)] [.inl ("com/example/reshelve/reshelve/io/parquet/RowBuffer", [(("com/example/reshelve/reshelve/io/parquet/RowBuffer", "bytes", "[B"), .null), (("com/example/reshelve/reshelve/io/parquet/RowBuffer", "length", "I"), (.int (0)))])] _ _ _
  refine W.dup d0_21 rfl ?_
  refine W.bipush 16 d0_22 rfl ?_
  refine W.initN (M' := m1) d0_24 rfl rfl (hw _ (wd 3 rfl)) (hw _ (wd 4 rfl)) (c1_0 hw) (ok1 hw) rfl rfl rfl ?_
  refine W.astore d0_27 rfl rfl ?_
  refine W.aload d0_29 rfl rfl ?_
  refine W.bipush 16 d0_31 rfl ?_
  refine W.callvN (M' := m3) d0_33 (hw _ (wd 12 rfl)) (hw _ (wd 13 rfl)) (hw _ (wd 14 rfl)) (hw _ (wd 15 rfl)) (c3_2 hw) (ok3 hw) rfl rfl rfl rfl ?_
  refine W.aload d0_36 rfl rfl ?_
  refine W.callvV (M' := m5) d0_38 (hw _ (wd 23 rfl)) (hw _ (wd 24 rfl)) (hw _ (wd 25 rfl)) (hw _ (wd 26 rfl)) (c5_3 hw) (ok5 hw) rfl rfl rfl rfl ?_
  refine W.astore d0_41 rfl rfl ?_
  refine W.aload d0_43 rfl rfl ?_
  refine W.iconst 0 d0_45 rfl ?_
  refine W.iload d0_46 rfl ?_
  refine W.bastore (i := 0) d0_48 rfl ⟨by decide, by decide⟩ (by simp) ?_
  refine W.aload d0_49 rfl rfl ?_
  refine W.iconst 1 d0_51 rfl ?_
  refine W.iload d0_52 rfl ?_
  refine W.bastore (i := 1) d0_54 rfl ⟨by decide, by decide⟩ (by simp) ?_
  show WB _ l Z n m0 55 [(.val (.long (v0))), .second, (.val (.int (s0))), (.val (.int (a))), (.val (.int (F))), (.val (.long (v))), .second, (.val (.int (Int32.ofNat s))), (.val (.int (F.toInt8.toInt32))), (.val (.ref 0)), (.val (.ref 1)), .unset] [] [.inl ("com/example/reshelve/reshelve/io/parquet/RowBuffer", [(("com/example/reshelve/reshelve/io/parquet/RowBuffer", "bytes", "[B"), (.ref 1)), (("com/example/reshelve/reshelve/io/parquet/RowBuffer", "length", "I"), (.int (16)))]), .inr (.byte, [(.int (F.toInt8.toInt32.toInt8.toInt32)), (.int (F.toInt8.toInt32.toInt8.toInt32)), (.int (0)), (.int (0)), (.int (0)), (.int (0)), (.int (0)), (.int (0)), (.int (0)), (.int (0)), (.int (0)), (.int (0)), (.int (0)), (.int (0)), (.int (0)), (.int (0))])] _ _ _
  refine W.aload d0_55 rfl rfl ?_
  refine W.iconst 2 d0_57 rfl ?_
  refine W.iload d0_58 rfl ?_
  refine W.bastore (i := 2) d0_60 rfl ⟨by decide, by decide⟩ (by simp) ?_
  refine W.aload d0_61 rfl rfl ?_
  refine W.iconst 3 d0_63 rfl ?_
  refine W.iload d0_64 rfl ?_
  refine W.bastore (i := 3) d0_66 rfl ⟨by decide, by decide⟩ (by simp) ?_
  refine W.aload d0_67 rfl rfl ?_
  refine W.iconst 4 d0_69 rfl ?_
  refine W.iload d0_70 rfl ?_
  refine W.bastore (i := 4) d0_72 rfl ⟨by decide, by decide⟩ (by simp) ?_
  refine W.aload d0_73 rfl rfl ?_
  refine W.iconst 5 d0_75 rfl ?_
  refine W.iload d0_76 rfl ?_
  refine W.bastore (i := 5) d0_78 rfl ⟨by decide, by decide⟩ (by simp) ?_
  show WB _ l Z n m0 79 [(.val (.long (v0))), .second, (.val (.int (s0))), (.val (.int (a))), (.val (.int (F))), (.val (.long (v))), .second, (.val (.int (Int32.ofNat s))), (.val (.int (F.toInt8.toInt32))), (.val (.ref 0)), (.val (.ref 1)), .unset] [] [.inl ("com/example/reshelve/reshelve/io/parquet/RowBuffer", [(("com/example/reshelve/reshelve/io/parquet/RowBuffer", "bytes", "[B"), (.ref 1)), (("com/example/reshelve/reshelve/io/parquet/RowBuffer", "length", "I"), (.int (16)))]), .inr (.byte, [(.int (F.toInt8.toInt32.toInt8.toInt32)), (.int (F.toInt8.toInt32.toInt8.toInt32)), (.int (F.toInt8.toInt32.toInt8.toInt32)), (.int (F.toInt8.toInt32.toInt8.toInt32)), (.int (F.toInt8.toInt32.toInt8.toInt32)), (.int (F.toInt8.toInt32.toInt8.toInt32)), (.int (0)), (.int (0)), (.int (0)), (.int (0)), (.int (0)), (.int (0)), (.int (0)), (.int (0)), (.int (0)), (.int (0))])] _ _ _
  refine W.aload d0_79 rfl rfl ?_
  refine W.bipush 6 d0_81 rfl ?_
  refine W.iload d0_83 rfl ?_
  refine W.bastore (i := 6) d0_85 rfl ⟨by decide, by decide⟩ (by simp) ?_
  refine W.aload d0_86 rfl rfl ?_
  refine W.bipush 7 d0_88 rfl ?_
  refine W.iload d0_90 rfl ?_
  refine W.bastore (i := 7) d0_92 rfl ⟨by decide, by decide⟩ (by simp) ?_
  refine W.aload d0_93 rfl rfl ?_
  refine W.bipush 8 d0_95 rfl ?_
  refine W.iload d0_97 rfl ?_
  refine W.bastore (i := 8) d0_99 rfl ⟨by decide, by decide⟩ (by simp) ?_
  refine W.aload d0_100 rfl rfl ?_
  refine W.bipush 9 d0_102 rfl ?_
  refine W.iload d0_104 rfl ?_
  refine W.bastore (i := 9) d0_106 rfl ⟨by decide, by decide⟩ (by simp) ?_
  show WB _ l Z n m0 107 [(.val (.long (v0))), .second, (.val (.int (s0))), (.val (.int (a))), (.val (.int (F))), (.val (.long (v))), .second, (.val (.int (Int32.ofNat s))), (.val (.int (F.toInt8.toInt32))), (.val (.ref 0)), (.val (.ref 1)), .unset] [] [.inl ("com/example/reshelve/reshelve/io/parquet/RowBuffer", [(("com/example/reshelve/reshelve/io/parquet/RowBuffer", "bytes", "[B"), (.ref 1)), (("com/example/reshelve/reshelve/io/parquet/RowBuffer", "length", "I"), (.int (16)))]), .inr (.byte, [(.int (F.toInt8.toInt32.toInt8.toInt32)), (.int (F.toInt8.toInt32.toInt8.toInt32)), (.int (F.toInt8.toInt32.toInt8.toInt32)), (.int (F.toInt8.toInt32.toInt8.toInt32)), (.int (F.toInt8.toInt32.toInt8.toInt32)), (.int (F.toInt8.toInt32.toInt8.toInt32)), (.int (F.toInt8.toInt32.toInt8.toInt32)), (.int (F.toInt8.toInt32.toInt8.toInt32)), (.int (F.toInt8.toInt32.toInt8.toInt32)), (.int (F.toInt8.toInt32.toInt8.toInt32)), (.int (0)), (.int (0)), (.int (0)), (.int (0)), (.int (0)), (.int (0))])] _ _ _
  refine W.aload d0_107 rfl rfl ?_
  refine W.bipush 10 d0_109 rfl ?_
  refine W.iload d0_111 rfl ?_
  refine W.bastore (i := 10) d0_113 rfl ⟨by decide, by decide⟩ (by simp) ?_
  refine W.aload d0_114 rfl rfl ?_
  refine W.bipush 11 d0_116 rfl ?_
  refine W.iload d0_118 rfl ?_
  refine W.bastore (i := 11) d0_120 rfl ⟨by decide, by decide⟩ (by simp) ?_
  refine W.aload d0_121 rfl rfl ?_
  refine W.bipush 12 d0_123 rfl ?_
  refine W.iload d0_125 rfl ?_
  refine W.bastore (i := 12) d0_127 rfl ⟨by decide, by decide⟩ (by simp) ?_
  refine W.aload d0_128 rfl rfl ?_
  refine W.bipush 13 d0_130 rfl ?_
  refine W.iload d0_132 rfl ?_
  refine W.bastore (i := 13) d0_134 rfl ⟨by decide, by decide⟩ (by simp) ?_
  show WB _ l Z n m0 135 [(.val (.long (v0))), .second, (.val (.int (s0))), (.val (.int (a))), (.val (.int (F))), (.val (.long (v))), .second, (.val (.int (Int32.ofNat s))), (.val (.int (F.toInt8.toInt32))), (.val (.ref 0)), (.val (.ref 1)), .unset] [] [.inl ("com/example/reshelve/reshelve/io/parquet/RowBuffer", [(("com/example/reshelve/reshelve/io/parquet/RowBuffer", "bytes", "[B"), (.ref 1)), (("com/example/reshelve/reshelve/io/parquet/RowBuffer", "length", "I"), (.int (16)))]), .inr (.byte, [(.int (F.toInt8.toInt32.toInt8.toInt32)), (.int (F.toInt8.toInt32.toInt8.toInt32)), (.int (F.toInt8.toInt32.toInt8.toInt32)), (.int (F.toInt8.toInt32.toInt8.toInt32)), (.int (F.toInt8.toInt32.toInt8.toInt32)), (.int (F.toInt8.toInt32.toInt8.toInt32)), (.int (F.toInt8.toInt32.toInt8.toInt32)), (.int (F.toInt8.toInt32.toInt8.toInt32)), (.int (F.toInt8.toInt32.toInt8.toInt32)), (.int (F.toInt8.toInt32.toInt8.toInt32)), (.int (F.toInt8.toInt32.toInt8.toInt32)), (.int (F.toInt8.toInt32.toInt8.toInt32)), (.int (F.toInt8.toInt32.toInt8.toInt32)), (.int (F.toInt8.toInt32.toInt8.toInt32)), (.int (0)), (.int (0))])] _ _ _
  refine W.aload d0_135 rfl rfl ?_
  refine W.bipush 14 d0_137 rfl ?_
  refine W.iload d0_139 rfl ?_
  refine W.bastore (i := 14) d0_141 rfl ⟨by decide, by decide⟩ (by simp) ?_
  refine W.aload d0_142 rfl rfl ?_
  refine W.bipush 15 d0_144 rfl ?_
  refine W.iload d0_146 rfl ?_
  refine W.bastore (i := 15) d0_148 rfl ⟨by decide, by decide⟩ (by simp) ?_
  simp only [own_bb]
  have el := own_lrep v s (F.toInt8.toInt32)
  show W l Z n m0 149 [(.val (.long (v0))), .second, (.val (.int (s0))), (.val (.int (a))), (.val (.int (F))), (.val (.long (v))), .second, (.val (.int (Int32.ofNat s))), (.val (.int (F.toInt8.toInt32))), (.val (.ref 0)), (.val (.ref 1)), .unset] [] [.inl ("com/example/reshelve/reshelve/io/parquet/RowBuffer", [(("com/example/reshelve/reshelve/io/parquet/RowBuffer", "bytes", "[B"), (.ref 1)), (("com/example/reshelve/reshelve/io/parquet/RowBuffer", "length", "I"), (.int (0 + 16)))]), .inr (.byte, List.replicate 16 (Value.int (F.toInt8.toInt32)))] _ _ _
  rw [← el]
  refine W.aload d0_149 rfl rfl ?_
  refine W.iload d0_151 rfl ?_
  refine W.lload d0_153 rfl ?_
  refine W.callvY (M' := m6) d0_155 (hw _ (wd 28 rfl)) (hw _ (wd 29 rfl)) (hw _ (wd 30 rfl)) (hw _ (wd 31 rfl)) (w6 hw v s F hs) (ok6 hw) rfl rfl rfl rfl ?_
  rintro _ ⟨t, ht, h1, h2, rfl⟩
  refine W.aload d0_158 rfl rfl ?_
  refine W.callvV (M' := m7) d0_160 (hw _ (wd 34 rfl)) (hw _ (wd 35 rfl)) (hw _ (wd 36 rfl)) (hw _ (wd 37 rfl)) (c7_4 hw (own_f v s t (F.toInt8.toInt32))) (ok7 hw) rfl rfl rfl rfl ?_
  refine W.bipush 16 d0_163 rfl ?_
  refine W.icmp_ne d0_165 (fun h => False.elim (by revert h; decide)) (fun h165 => ?_)
  refine W.iconst 1 d0_168 rfl ?_
  refine W.goto d0_169 ?_
  refine W.istore d0_173 rfl ?_
  refine W.iload d0_175 rfl ?_
  refine W.if_eq d0_177 (fun h => False.elim (by revert h; decide)) (fun h177 => ?_)
  refine W.aload d0_180 rfl rfl ?_
  refine W.iconst 0 d0_182 rfl ?_
  refine W.iload d0_183 rfl ?_
  refine W.lload d0_185 rfl ?_
  refine W.iload d0_187 rfl ?_
  refine W.callsV (M' := m8) d0_189 (hw _ (wd 39 rfl)) (hw _ (wd 40 rfl)) (w8 hw v s F hs t 0 ht (by decide) h1 h2) (ok8 hw) rfl rfl rfl ?_
  refine W.if_eq d0_192 (fun h => False.elim (by revert h; decide)) (fun h192 => ?_)
  refine W.iconst 1 d0_195 rfl ?_
  refine W.goto d0_196 ?_
  refine W.istore d0_200 rfl ?_
  show WB _ l Z n m0 202 [(.val (.long (v0))), .second, (.val (.int (s0))), (.val (.int (a))), (.val (.int (F))), (.val (.long (v))), .second, (.val (.int (Int32.ofNat s))), (.val (.int (F.toInt8.toInt32))), (.val (.ref 0)), (.val (.ref 1)), (.val (.int (1)))] [] [.inl ("com/example/reshelve/reshelve/io/parquet/RowBuffer", [(("com/example/reshelve/reshelve/io/parquet/RowBuffer", "bytes", "[B"), (.ref 1)), (("com/example/reshelve/reshelve/io/parquet/RowBuffer", "length", "I"), (.int (16)))]), .inr (.byte, (own_f v s t (F.toInt8.toInt32)))] _ _ _
  refine W.iload d0_202 rfl ?_
  refine W.if_eq d0_204 (fun h => False.elim (by revert h; decide)) (fun h204 => ?_)
  refine W.aload d0_207 rfl rfl ?_
  refine W.iconst 1 d0_209 rfl ?_
  refine W.iload d0_210 rfl ?_
  refine W.lload d0_212 rfl ?_
  refine W.iload d0_214 rfl ?_
  refine W.callsV (M' := m8) d0_216 (hw _ (wd 39 rfl)) (hw _ (wd 40 rfl)) (w8 hw v s F hs t 1 ht (by decide) h1 h2) (ok8 hw) rfl rfl rfl ?_
  refine W.if_eq d0_219 (fun h => False.elim (by revert h; decide)) (fun h219 => ?_)
  refine W.iconst 1 d0_222 rfl ?_
  refine W.goto d0_223 ?_
  refine W.istore d0_227 rfl ?_
  refine W.iload d0_229 rfl ?_
  refine W.if_eq d0_231 (fun h => False.elim (by revert h; decide)) (fun h231 => ?_)
  refine W.aload d0_234 rfl rfl ?_
  refine W.iconst 2 d0_236 rfl ?_
  refine W.iload d0_237 rfl ?_
  refine W.lload d0_239 rfl ?_
  refine W.iload d0_241 rfl ?_
  refine W.callsV (M' := m8) d0_243 (hw _ (wd 39 rfl)) (hw _ (wd 40 rfl)) (w8 hw v s F hs t 2 ht (by decide) h1 h2) (ok8 hw) rfl rfl rfl ?_
  refine W.if_eq d0_246 (fun h => False.elim (by revert h; decide)) (fun h246 => ?_)
  refine W.iconst 1 d0_249 rfl ?_
  refine W.goto d0_250 ?_
  refine W.istore d0_254 rfl ?_
  refine W.iload d0_256 rfl ?_
  refine W.if_eq d0_258 (fun h => False.elim (by revert h; decide)) (fun h258 => ?_)
  refine W.aload d0_261 rfl rfl ?_
  refine W.iconst 3 d0_263 rfl ?_
  refine W.iload d0_264 rfl ?_
  refine W.lload d0_266 rfl ?_
  refine W.iload d0_268 rfl ?_
  refine W.callsV (M' := m8) d0_270 (hw _ (wd 39 rfl)) (hw _ (wd 40 rfl)) (w8 hw v s F hs t 3 ht (by decide) h1 h2) (ok8 hw) rfl rfl rfl ?_
  refine W.if_eq d0_273 (fun h => False.elim (by revert h; decide)) (fun h273 => ?_)
  refine W.iconst 1 d0_276 rfl ?_
  refine W.goto d0_277 ?_
  refine W.istore d0_281 rfl ?_
  refine W.iload d0_283 rfl ?_
  refine W.if_eq d0_285 (fun h => False.elim (by revert h; decide)) (fun h285 => ?_)
  refine W.aload d0_288 rfl rfl ?_
  refine W.iconst 4 d0_290 rfl ?_
  refine W.iload d0_291 rfl ?_
  refine W.lload d0_293 rfl ?_
  refine W.iload d0_295 rfl ?_
  refine W.callsV (M' := m8) d0_297 (hw _ (wd 39 rfl)) (hw _ (wd 40 rfl)) (w8 hw v s F hs t 4 ht (by decide) h1 h2) (ok8 hw) rfl rfl rfl ?_
  refine W.if_eq d0_300 (fun h => False.elim (by revert h; decide)) (fun h300 => ?_)
  refine W.iconst 1 d0_303 rfl ?_
  refine W.goto d0_304 ?_
  refine W.istore d0_308 rfl ?_
  show WB _ l Z n m0 310 [(.val (.long (v0))), .second, (.val (.int (s0))), (.val (.int (a))), (.val (.int (F))), (.val (.long (v))), .second, (.val (.int (Int32.ofNat s))), (.val (.int (F.toInt8.toInt32))), (.val (.ref 0)), (.val (.ref 1)), (.val (.int (1)))] [] [.inl ("com/example/reshelve/reshelve/io/parquet/RowBuffer", [(("com/example/reshelve/reshelve/io/parquet/RowBuffer", "bytes", "[B"), (.ref 1)), (("com/example/reshelve/reshelve/io/parquet/RowBuffer", "length", "I"), (.int (16)))]), .inr (.byte, (own_f v s t (F.toInt8.toInt32)))] _ _ _
  refine W.iload d0_310 rfl ?_
  refine W.if_eq d0_312 (fun h => False.elim (by revert h; decide)) (fun h312 => ?_)
  refine W.aload d0_315 rfl rfl ?_
  refine W.iconst 5 d0_317 rfl ?_
  refine W.iload d0_318 rfl ?_
  refine W.lload d0_320 rfl ?_
  refine W.iload d0_322 rfl ?_
  refine W.callsV (M' := m8) d0_324 (hw _ (wd 39 rfl)) (hw _ (wd 40 rfl)) (w8 hw v s F hs t 5 ht (by decide) h1 h2) (ok8 hw) rfl rfl rfl ?_
  refine W.if_eq d0_327 (fun h => False.elim (by revert h; decide)) (fun h327 => ?_)
  refine W.iconst 1 d0_330 rfl ?_
  refine W.goto d0_331 ?_
  refine W.istore d0_335 rfl ?_
  refine W.iload d0_337 rfl ?_
  refine W.if_eq d0_339 (fun h => False.elim (by revert h; decide)) (fun h339 => ?_)
  refine W.aload d0_342 rfl rfl ?_
  refine W.bipush 6 d0_344 rfl ?_
  refine W.iload d0_346 rfl ?_
  refine W.lload d0_348 rfl ?_
  refine W.iload d0_350 rfl ?_
  refine W.callsV (M' := m8) d0_352 (hw _ (wd 39 rfl)) (hw _ (wd 40 rfl)) (w8 hw v s F hs t 6 ht (by decide) h1 h2) (ok8 hw) rfl rfl rfl ?_
  refine W.if_eq d0_355 (fun h => False.elim (by revert h; decide)) (fun h355 => ?_)
  refine W.iconst 1 d0_358 rfl ?_
  refine W.goto d0_359 ?_
  refine W.istore d0_363 rfl ?_
  refine W.iload d0_365 rfl ?_
  refine W.if_eq d0_367 (fun h => False.elim (by revert h; decide)) (fun h367 => ?_)
  refine W.aload d0_370 rfl rfl ?_
  refine W.bipush 7 d0_372 rfl ?_
  refine W.iload d0_374 rfl ?_
  refine W.lload d0_376 rfl ?_
  refine W.iload d0_378 rfl ?_
  refine W.callsV (M' := m8) d0_380 (hw _ (wd 39 rfl)) (hw _ (wd 40 rfl)) (w8 hw v s F hs t 7 ht (by decide) h1 h2) (ok8 hw) rfl rfl rfl ?_
  refine W.if_eq d0_383 (fun h => False.elim (by revert h; decide)) (fun h383 => ?_)
  refine W.iconst 1 d0_386 rfl ?_
  refine W.goto d0_387 ?_
  refine W.istore d0_391 rfl ?_
  refine W.iload d0_393 rfl ?_
  refine W.if_eq d0_395 (fun h => False.elim (by revert h; decide)) (fun h395 => ?_)
  refine W.aload d0_398 rfl rfl ?_
  refine W.bipush 8 d0_400 rfl ?_
  refine W.iload d0_402 rfl ?_
  refine W.lload d0_404 rfl ?_
  refine W.iload d0_406 rfl ?_
  refine W.callsV (M' := m8) d0_408 (hw _ (wd 39 rfl)) (hw _ (wd 40 rfl)) (w8 hw v s F hs t 8 ht (by decide) h1 h2) (ok8 hw) rfl rfl rfl ?_
  refine W.if_eq d0_411 (fun h => False.elim (by revert h; decide)) (fun h411 => ?_)
  refine W.iconst 1 d0_414 rfl ?_
  refine W.goto d0_415 ?_
  refine W.istore d0_419 rfl ?_
  show WB _ l Z n m0 421 [(.val (.long (v0))), .second, (.val (.int (s0))), (.val (.int (a))), (.val (.int (F))), (.val (.long (v))), .second, (.val (.int (Int32.ofNat s))), (.val (.int (F.toInt8.toInt32))), (.val (.ref 0)), (.val (.ref 1)), (.val (.int (1)))] [] [.inl ("com/example/reshelve/reshelve/io/parquet/RowBuffer", [(("com/example/reshelve/reshelve/io/parquet/RowBuffer", "bytes", "[B"), (.ref 1)), (("com/example/reshelve/reshelve/io/parquet/RowBuffer", "length", "I"), (.int (16)))]), .inr (.byte, (own_f v s t (F.toInt8.toInt32)))] _ _ _
  refine W.iload d0_421 rfl ?_
  refine W.if_eq d0_423 (fun h => False.elim (by revert h; decide)) (fun h423 => ?_)
  refine W.aload d0_426 rfl rfl ?_
  refine W.bipush 9 d0_428 rfl ?_
  refine W.iload d0_430 rfl ?_
  refine W.lload d0_432 rfl ?_
  refine W.iload d0_434 rfl ?_
  refine W.callsV (M' := m8) d0_436 (hw _ (wd 39 rfl)) (hw _ (wd 40 rfl)) (w8 hw v s F hs t 9 ht (by decide) h1 h2) (ok8 hw) rfl rfl rfl ?_
  refine W.if_eq d0_439 (fun h => False.elim (by revert h; decide)) (fun h439 => ?_)
  refine W.iconst 1 d0_442 rfl ?_
  refine W.goto d0_443 ?_
  refine W.istore d0_447 rfl ?_
  refine W.iload d0_449 rfl ?_
  refine W.if_eq d0_451 (fun h => False.elim (by revert h; decide)) (fun h451 => ?_)
  refine W.aload d0_454 rfl rfl ?_
  refine W.bipush 10 d0_456 rfl ?_
  refine W.iload d0_458 rfl ?_
  refine W.lload d0_460 rfl ?_
  refine W.iload d0_462 rfl ?_
  refine W.callsV (M' := m8) d0_464 (hw _ (wd 39 rfl)) (hw _ (wd 40 rfl)) (w8 hw v s F hs t 10 ht (by decide) h1 h2) (ok8 hw) rfl rfl rfl ?_
  refine W.if_eq d0_467 (fun h => False.elim (by revert h; decide)) (fun h467 => ?_)
  refine W.iconst 1 d0_470 rfl ?_
  refine W.goto d0_471 ?_
  refine W.istore d0_475 rfl ?_
  refine W.iload d0_477 rfl ?_
  refine W.if_eq d0_479 (fun h => False.elim (by revert h; decide)) (fun h479 => ?_)
  refine W.aload d0_482 rfl rfl ?_
  refine W.bipush 11 d0_484 rfl ?_
  refine W.iload d0_486 rfl ?_
  refine W.lload d0_488 rfl ?_
  refine W.iload d0_490 rfl ?_
  refine W.callsV (M' := m8) d0_492 (hw _ (wd 39 rfl)) (hw _ (wd 40 rfl)) (w8 hw v s F hs t 11 ht (by decide) h1 h2) (ok8 hw) rfl rfl rfl ?_
  refine W.if_eq d0_495 (fun h => False.elim (by revert h; decide)) (fun h495 => ?_)
  refine W.iconst 1 d0_498 rfl ?_
  refine W.goto d0_499 ?_
  refine W.istore d0_503 rfl ?_
  refine W.iload d0_505 rfl ?_
  refine W.if_eq d0_507 (fun h => False.elim (by revert h; decide)) (fun h507 => ?_)
  refine W.aload d0_510 rfl rfl ?_
  refine W.bipush 12 d0_512 rfl ?_
  refine W.iload d0_514 rfl ?_
  refine W.lload d0_516 rfl ?_
  refine W.iload d0_518 rfl ?_
  refine W.callsV (M' := m8) d0_520 (hw _ (wd 39 rfl)) (hw _ (wd 40 rfl)) (w8 hw v s F hs t 12 ht (by decide) h1 h2) (ok8 hw) rfl rfl rfl ?_
  refine W.if_eq d0_523 (fun h => False.elim (by revert h; decide)) (fun h523 => ?_)
  refine W.iconst 1 d0_526 rfl ?_
  refine W.goto d0_527 ?_
  refine W.istore d0_531 rfl ?_
  show WB _ l Z n m0 533 [(.val (.long (v0))), .second, (.val (.int (s0))), (.val (.int (a))), (.val (.int (F))), (.val (.long (v))), .second, (.val (.int (Int32.ofNat s))), (.val (.int (F.toInt8.toInt32))), (.val (.ref 0)), (.val (.ref 1)), (.val (.int (1)))] [] [.inl ("com/example/reshelve/reshelve/io/parquet/RowBuffer", [(("com/example/reshelve/reshelve/io/parquet/RowBuffer", "bytes", "[B"), (.ref 1)), (("com/example/reshelve/reshelve/io/parquet/RowBuffer", "length", "I"), (.int (16)))]), .inr (.byte, (own_f v s t (F.toInt8.toInt32)))] _ _ _
  refine W.iload d0_533 rfl ?_
  refine W.if_eq d0_535 (fun h => False.elim (by revert h; decide)) (fun h535 => ?_)
  refine W.aload d0_538 rfl rfl ?_
  refine W.bipush 13 d0_540 rfl ?_
  refine W.iload d0_542 rfl ?_
  refine W.lload d0_544 rfl ?_
  refine W.iload d0_546 rfl ?_
  refine W.callsV (M' := m8) d0_548 (hw _ (wd 39 rfl)) (hw _ (wd 40 rfl)) (w8 hw v s F hs t 13 ht (by decide) h1 h2) (ok8 hw) rfl rfl rfl ?_
  refine W.if_eq d0_551 (fun h => False.elim (by revert h; decide)) (fun h551 => ?_)
  refine W.iconst 1 d0_554 rfl ?_
  refine W.goto d0_555 ?_
  refine W.istore d0_559 rfl ?_
  refine W.iload d0_561 rfl ?_
  refine W.if_eq d0_563 (fun h => False.elim (by revert h; decide)) (fun h563 => ?_)
  refine W.aload d0_566 rfl rfl ?_
  refine W.bipush 14 d0_568 rfl ?_
  refine W.iload d0_570 rfl ?_
  refine W.lload d0_572 rfl ?_
  refine W.iload d0_574 rfl ?_
  refine W.callsV (M' := m8) d0_576 (hw _ (wd 39 rfl)) (hw _ (wd 40 rfl)) (w8 hw v s F hs t 14 ht (by decide) h1 h2) (ok8 hw) rfl rfl rfl ?_
  refine W.if_eq d0_579 (fun h => False.elim (by revert h; decide)) (fun h579 => ?_)
  refine W.iconst 1 d0_582 rfl ?_
  refine W.goto d0_583 ?_
  refine W.istore d0_587 rfl ?_
  refine W.iload d0_589 rfl ?_
  refine W.if_eq d0_591 (fun h => False.elim (by revert h; decide)) (fun h591 => ?_)
  refine W.aload d0_594 rfl rfl ?_
  refine W.bipush 15 d0_596 rfl ?_
  refine W.iload d0_598 rfl ?_
  refine W.lload d0_600 rfl ?_
  refine W.iload d0_602 rfl ?_
  refine W.callsV (M' := m8) d0_604 (hw _ (wd 39 rfl)) (hw _ (wd 40 rfl)) (w8 hw v s F hs t 15 ht (by decide) h1 h2) (ok8 hw) rfl rfl rfl ?_
  refine W.if_eq d0_607 (fun h => False.elim (by revert h; decide)) (fun h607 => ?_)
  refine W.iconst 1 d0_610 rfl ?_
  refine W.goto d0_611 ?_
  refine W.istore d0_615 rfl ?_
  refine W.iload d0_617 rfl ?_
  exact W.nreturn .boolean d0_619 rfl (by simp) (by decide) (by decide) (rfl)
set_option maxRecDepth 65536 in
set_option maxHeartbeats 40000000 in
theorem comes_1 {Post : Tables → Env → Array Value → State → Outcome → State → Prop} (hpost : ∀ tb e args s v u, (limb_1_1.after args s (.returned v) u = true ∧ limb_1_2.after args s (.returned v) u = true ∧ True) → FrameEnd s (.returned v) u (Jvm.fieldLocs frame_1_writes args s ++ Jvm.arrayLocs frame_1_arrays args s ++ Jvm.staticLocs frame_1_statics s) 16 128 → Post tb e args s (.returned v) u) :
    ArmFor flags0 classFile x code maxLocals ret World_1 tables_1 room_1 Calls_1 rest_1 Pre_1 Post := by
  intro l hfl _ _ p e ha hc hk s m args below hf hA hF happ hP
  obtain ⟨hcalls, hrest, hpre⟩ := hP
  obtain ⟨-, -, -, hnamed, -, -, -, hat⟩ := (Spec.applies_iff hf).mp happ
  obtain ⟨hg, hn⟩ := and_e (Cond.before_iff.mp (show (Jvm.Cond.and given_1 narrow_1).before args s = true from hpre))
  obtain ⟨hcnt, g0⟩ := and_e hg
  obtain ⟨q0, g1⟩ := and_e g0
  obtain ⟨q1, g2⟩ := and_e g1
  obtain ⟨q2, g3⟩ := and_e g2
  obtain ⟨w0, w1, w2, w3, rfl⟩ : ∃ w0 w1 w2 w3 : Value, args = #[w0, w1, w2, w3] := by
    have hs : args.size = 4 := by simpa [Cond.value, given_1] using hcnt
    obtain ⟨L⟩ := args
    match L, hs with
    | [w0, w1, w2, w3], _ => exact ⟨w0, w1, w2, w3, rfl⟩
  have hw := fun d (hd : d ∈ tables_1) => atoms_spec (ws := Jvm.Cond.code x code maxLocals ret :: tables_1) hat d (List.mem_cons_of_mem _ hd)
  obtain ⟨i0, ei0⟩ := isL_v q0
  obtain rfl : w0 = (.long i0) := Option.some.inj ei0
  obtain ⟨i1, ei1⟩ := is_v q1
  obtain rfl : w1 = (.int i1) := Option.some.inj ei1
  obtain ⟨i2, ei2⟩ := is_v q2
  obtain rfl : w2 = (.int i2) := Option.some.inj ei2
  obtain ⟨i3, ei3⟩ := is_v g3
  obtain rfl : w3 = (.int i3) := Option.some.inj ei3
  obtain ⟨n, o, h1, h2, h3, _, L, rfl, ⟨v0, H', rfl, rfl, hH, N⟩, hq⟩ := W.start (M := m0) (w_law (l := l) hw i0 i1 i2 i3) pn0 tables_1 p e ha hc hk s m _ below hf ((Spec.applies_iff_loose hf).mp happ).1 ⟨rfl, State.Warmed39.refl s, rfl⟩ trivial
  refine ⟨n, _, h1, h2, h3, hpost _ _ _ _ _ _ ⟨Cond.after_iff.mpr rfl, Cond.after_iff.mpr (eq_i res_at (Term.int_eval (1)) rfl), trivial⟩ ⟨hq.1, hq.2.1, (hq.2.2.sift fun y hy => Or.inr (N y hy)).mono (by decide) (by decide)⟩⟩
theorem main_1_1 : Claimed_1_1 := comes_1 fun _ _ _ _ _ _ h hF => ⟨h.1, hF⟩
theorem main_1_2 : Claimed_1_2 := comes_1 fun _ _ _ _ _ _ h hF => ⟨h.2.1, hF⟩
end Jvm.Pilot.@@N@@
namespace Jvm.Pilot.@@N@@
open Jvm Jvm.ClassFile Sem Op Lib Jvm.Free Jvm.Stand Jvm.Pilot.@@N@@.Jvm.D
/-! MADE BY PROGRAM (witnessworld.py) out of the Statement's table words and the real class files: 9 classes; the members and pool entries that the words name. The judged class is class 1, her method 3. -/
namespace start1
open Jvm.ClassFile
def u (s : String) : CpInfo := .utf8 (stringToUtf16 s)
/-- a pool by its gaps: so many unusable entries, then the entry; so many at the end -/
def gap : Nat → List CpInfo → List CpInfo
  | 0, r => r
  | n + 1, r => .unusable :: gap n r
def poolList (es : List (Nat × CpInfo)) (last : Nat) : List CpInfo := es.foldr (fun e r => gap e.1 (e.2 :: r)) (gap last [])
def pool (es : List (Nat × CpInfo)) (last : Nat) : Array CpInfo := ⟨poolList es last⟩
def fileOf (pool : Array CpInfo) (this : Nat) (attrs : Array Attribute := #[]) (ms : Array MethodInfo := #[]) (fl : Nat := 33) (sup : Nat := 0) (ifs : Array Nat := #[]) (fds : Array FieldInfo := #[]) : ClassFile where
  minorVersion := 0
  majorVersion := 65
  constantPool := pool
  accessFlags := fl
  thisClass := this
  superClass := sup
  interfaces := ifs
  fields := fds
  methods := ms
  attributes := attrs
def plain (name : String) (sup : Option ClassId) : Class where
  name := name
  kind := .ordinary
  loader := none
  accessFlags := 33
  super := sup
  interfaces := #[]
  cf := none
  fields := #[]
  methods := #[]
  instanceTypes := #[]
  staticTypes := #[]
  resolved := #[]
  callSites := []
  init := .initialized
  statics := none
  mirror := none

def pool0 : Array CpInfo := pool [(5, u "<init>"), (0, u "()V"), (1, .class_ 10), (1, u "java/lang/Object")] 113

def k0c0 : Code := { maxStack := 0, maxLocals := 1, code := object_method_1_code, exceptionTable := #[], attributes := #[] }
def k0m0 : Method := { name := "<init>", desc := "()V", sig := { parameters := [], returnType := none }, accessFlags := 1, code := some k0c0 }
/-- java/lang/Object -/
def k0 : Class := { plain "java/lang/Object" none with
  accessFlags := 33
  interfaces := #[]
  cf := some (fileOf pool0 8 #[] #[{ accessFlags := 1, nameIndex := 5, descriptorIndex := 6, attributes := #[] }] 33 0 #[] #[])
  fields := #[]
  methods := #[k0m0]
  instanceTypes := #[]
  staticTypes := #[]
  resolved := Array.replicate 124 none
  statics := none }

def pool1 : Array CpInfo := pool [(2, .class_ 4), (1, u "java/lang/Object"), (0, u "<init>"), (0, u "()V"), (0, .long 127), (1, .long 128), (1, .methodref 12 13), (0, .class_ 14), (0, .nameAndType 15 16), (0, u "com/example/reshelve/reshelve/io/parquet/RowBufferSetVarintPinLaw"), (0, u "expected"), (0, u "(JIB)B"), (0, .class_ 18), (0, u "com/example/reshelve/reshelve/io/parquet/RowBuffer"), (0, .methodref 17 20), (0, .nameAndType 5 21), (0, u "(I)V"), (0, .methodref 17 23), (0, .nameAndType 24 21), (0, u "skip"), (0, .methodref 17 26), (0, .nameAndType 27 28), (0, u "bytes"), (0, u "()[B"), (0, .methodref 17 30), (0, .nameAndType 31 32), (0, u "setVarint"), (0, u "(IJ)V"), (0, .methodref 17 34), (0, .nameAndType 35 36), (0, u "length"), (0, u "()I"), (0, .methodref 12 38), (0, .nameAndType 39 40), (0, u "at"), (0, u "([BIIJB)Z"), (3, u "law"), (0, u "(JIII)Z")] 4

def k1m0 : Method := { name := "<init>", desc := "()V", sig := { parameters := [], returnType := none }, accessFlags := 2, code := none }
def k1c1 : Code := { maxStack := 5, maxLocals := 7, code := method_2_code, exceptionTable := #[], attributes := #[] }
def k1m1 : Method := { name := "expected", desc := "(JIB)B", sig := { parameters := [.long, .int, .byte], returnType := some .byte }, accessFlags := 10, code := some k1c1 }
def k1c2 : Code := { maxStack := 5, maxLocals := 6, code := method_3_code, exceptionTable := #[], attributes := #[] }
def k1m2 : Method := { name := "at", desc := "([BIIJB)Z", sig := { parameters := [(.array .byte), .int, .int, .long, .byte], returnType := some .boolean }, accessFlags := 10, code := some k1c2 }
def k1c3 : Code := { maxStack := 6, maxLocals := 12, code := code, exceptionTable := #[], attributes := #[] }
def k1m3 : Method := { name := "law", desc := "(JIII)Z", sig := { parameters := [.long, .int, .int, .int], returnType := some .boolean }, accessFlags := 9, code := some k1c3 }
/-- com/example/reshelve/reshelve/io/parquet/RowBufferSetVarintPinLaw -/
def k1 : Class := { plain "com/example/reshelve/reshelve/io/parquet/RowBufferSetVarintPinLaw" (some 0) with
  accessFlags := 49
  interfaces := #[]
  cf := some (fileOf pool1 12 #[] #[{ accessFlags := 2, nameIndex := 5, descriptorIndex := 6, attributes := #[] }, { accessFlags := 10, nameIndex := 15, descriptorIndex := 16, attributes := #[] }, { accessFlags := 10, nameIndex := 39, descriptorIndex := 40, attributes := #[] }, { accessFlags := 9, nameIndex := 44, descriptorIndex := 45, attributes := #[] }] 49 2 #[] #[])
  fields := #[]
  methods := #[k1m0, k1m1, k1m2, k1m3]
  instanceTypes := #[]
  staticTypes := #[]
  resolved := Array.replicate 50 none
  statics := none }

def pool2 : Array CpInfo := pool [(4, .class_ 6), (1, u "com/example/reshelve/reshelve/io/parquet/RowBuffer"), (0, u "<init>"), (0, u "(I)V"), (0, .methodref 10 11), (0, .class_ 12), (0, .nameAndType 7 13), (0, u "java/lang/Object"), (0, u "()V"), (0, .fieldref 4 15), (0, .nameAndType 16 17), (0, u "bytes"), (0, u "[B"), (0, .fieldref 4 19), (0, .nameAndType 20 21), (0, u "length"), (0, u "I"), (0, .methodref 4 23), (0, .nameAndType 24 8), (0, u "room"), (6, .long 18446744073709551488), (10, u "setVarint"), (0, u "(IJ)V"), (0, .long 127), (1, .long 128), (15, u "()I"), (4, .long 2), (9, .long 2147483639), (17, u "WORD"), (4, u "()[B"), (1, u "skip"), (16, .class_ 120), (0, u "com/example/reshelve/reshelve/io/parquet/RowBuffer$Cursor")] 2

def k2m0 : Method := { name := "<init>", desc := "()V", sig := { parameters := [], returnType := none }, accessFlags := 0, code := none }
def k2c1 : Code := { maxStack := 2, maxLocals := 2, code := prog_25_method_2_code, exceptionTable := #[], attributes := #[] }
def k2m1 : Method := { name := "<init>", desc := "(I)V", sig := { parameters := [.int], returnType := none }, accessFlags := 0, code := some k2c1 }
def k2c2 : Code := { maxStack := 1, maxLocals := 1, code := prog_25_method_3_code, exceptionTable := #[], attributes := #[] }
def k2m2 : Method := { name := "bytes", desc := "()[B", sig := { parameters := [], returnType := some (.array .byte) }, accessFlags := 0, code := some k2c2 }
def k2c3 : Code := { maxStack := 1, maxLocals := 1, code := prog_25_method_4_code, exceptionTable := #[], attributes := #[] }
def k2m3 : Method := { name := "length", desc := "()I", sig := { parameters := [], returnType := some .int }, accessFlags := 0, code := some k2c3 }
def k2c4 : Code := { maxStack := 3, maxLocals := 2, code := prog_25_method_6_code, exceptionTable := #[], attributes := #[] }
def k2m4 : Method := { name := "skip", desc := "(I)V", sig := { parameters := [.int], returnType := none }, accessFlags := 0, code := some k2c4 }
def k2c5 : Code := { maxStack := 6, maxLocals := 7, code := prog_25_method_10_code, exceptionTable := #[], attributes := #[] }
def k2m5 : Method := { name := "setVarint", desc := "(IJ)V", sig := { parameters := [.int, .long], returnType := none }, accessFlags := 0, code := some k2c5 }
def k2c6 : Code := { maxStack := 6, maxLocals := 4, code := prog_25_method_17_code, exceptionTable := #[], attributes := #[] }
def k2m6 : Method := { name := "room", desc := "(I)V", sig := { parameters := [.int], returnType := none }, accessFlags := 2, code := some k2c6 }
/-- com/example/reshelve/reshelve/io/parquet/RowBuffer -/
def k2 : Class := { plain "com/example/reshelve/reshelve/io/parquet/RowBuffer" (some 0) with
  accessFlags := 48
  interfaces := #[]
  cf := some (fileOf pool2 4 #[.nestMembers #[119]] #[{ accessFlags := 0, nameIndex := 7, descriptorIndex := 13, attributes := #[] }, { accessFlags := 0, nameIndex := 7, descriptorIndex := 8, attributes := #[] }, { accessFlags := 0, nameIndex := 16, descriptorIndex := 100, attributes := #[] }, { accessFlags := 0, nameIndex := 20, descriptorIndex := 62, attributes := #[] }, { accessFlags := 0, nameIndex := 102, descriptorIndex := 8, attributes := #[] }, { accessFlags := 0, nameIndex := 42, descriptorIndex := 43, attributes := #[] }, { accessFlags := 2, nameIndex := 24, descriptorIndex := 8, attributes := #[] }] 48 10 #[] #[{ accessFlags := 26, nameIndex := 95, descriptorIndex := 21, attributes := #[] }, { accessFlags := 2, nameIndex := 16, descriptorIndex := 17, attributes := #[] }, { accessFlags := 2, nameIndex := 20, descriptorIndex := 21, attributes := #[] }])
  fields := #[{ name := "WORD", type := .int, accessFlags := 26, slot := 0, constantValue := 0 }, { name := "bytes", type := (.array .byte), accessFlags := 2, slot := 0, constantValue := 0 }, { name := "length", type := .int, accessFlags := 2, slot := 1, constantValue := 0 }]
  methods := #[k2m0, k2m1, k2m2, k2m3, k2m4, k2m5, k2m6]
  instanceTypes := #[(.array .byte), .int]
  staticTypes := #[.int]
  resolved := Array.replicate 123 none
  statics := none }

def pool3 : Array CpInfo := pool [(1, u "java/lang/Cloneable"), (0, .class_ 1), (0, u "java/lang/Object"), (0, .class_ 3)] 3

/-- java/lang/Cloneable -/
def k3 : Class := { plain "java/lang/Cloneable" (some 0) with
  accessFlags := 1537
  interfaces := #[]
  cf := some (fileOf pool3 2 #[] #[] 1537 4 #[] #[])
  fields := #[]
  methods := #[]
  instanceTypes := #[]
  staticTypes := #[]
  resolved := Array.replicate 8 none
  statics := none }

def pool4 : Array CpInfo := pool [(1, u "java/io/Serializable"), (0, .class_ 1), (0, u "java/lang/Object"), (0, .class_ 3)] 3

/-- java/io/Serializable -/
def k4 : Class := { plain "java/io/Serializable" (some 0) with
  accessFlags := 1537
  interfaces := #[]
  cf := some (fileOf pool4 2 #[] #[] 1537 4 #[] #[])
  fields := #[]
  methods := #[]
  instanceTypes := #[]
  staticTypes := #[]
  resolved := Array.replicate 8 none
  statics := none }

/-- the primitive byte -/
def k5 : Class := { plain "byte" none with kind := .primitive 'B', accessFlags := 0x411 }
/-- [B -/
def k6 : Class := { plain "[B" (some 0) with kind := .array 5 .byte, interfaces := #[3, 4], accessFlags := 1041 }

/-- the primitive int -/
def k7 : Class := { plain "int" none with kind := .primitive 'I', accessFlags := 0x411 }
/-- [I -/
def k8 : Class := { plain "[I" (some 0) with kind := .array 7 .int, interfaces := #[3, 4], accessFlags := 1041 }

def heap : Heap := #[]
def classes : Array Class := #[k0, k1, k2, k3, k4, k5, k6, k7, k8]
def interned : List (Array UInt16 × Addr) := []
def slotsUsed : Nat := 0
def theMethod : MethodId := ⟨1, 3⟩
def args0 : Array Value := #[.long 5, .int 7, .int 9, .int 2]
def aboutOver (below : List Frame) : State where
  vm := { classes := classes, interned := interned.toArray }
  heap := heap
  slotsUsed := slotsUsed
  threads := #[{ frames := .invoking theMethod args0 :: below }]
def below0 : List Frame := [.native { method := ⟨0, 0⟩, args := #[] }]
def about1 : State := aboutOver below0
def p0 : Program := .bare "" "" ""
def e0 : Env := launch0.env 0 0 0
theorem w_frames : about1.frames = Frame.invoking theMethod args0 :: below0 := rfl
set_option maxRecDepth 65536 in
theorem w_args : argsFit about1.vm theMethod args0 = true := by decide +kernel
set_option maxRecDepth 65536 in
theorem w_heap : heapFits about1 = true := by decide +kernel
set_option maxRecDepth 65536 in
theorem w_runnable : about1.curStatus? = some .runnable := by decide +kernel
set_option maxRecDepth 65536 in
theorem w_alone : about1.alone = true := by decide +kernel
set_option maxRecDepth 65536 in
theorem w_named : about1.methodNamed? x = some theMethod := by decide +kernel
set_option maxRecDepth 65536 in
theorem w_hears : about1.hears theMethod below0 = true := by decide +kernel
set_option maxRecDepth 65536 in
theorem w_ripe : about1.ripe theMethod args0 below0 = true := by decide +kernel
theorem w_running : about1.status = .running := rfl
set_option maxRecDepth 65536 in
theorem w_room : about1.hasRoom e0.platform room_1 = true :=
  launch0.hasRoom_least _ room_1 (by decide +kernel) (by decide +kernel) (by decide +kernel) (by decide +kernel) (by decide +kernel) (by decide +kernel)
theorem allAtoms_all (ts : List Jvm.Cond) (a : Array Jvm.Value) (st : Jvm.State) : (allAtoms ts).before a st = ts.all (fun c => c.before a st) := by
  induction ts with
  | nil => rfl
  | cons c t ih =>
    show (Jvm.Cond.and c (allAtoms t)).before a st = _
    rw [Jvm.Cond.before_and, ih, List.all_cons]
def words1 : List Jvm.Cond := Jvm.Cond.code x code maxLocals ret :: tables_1
/-- a 'code' word, met by the world's own term for the bytes: nothing is compared byte by byte -/
theorem code_word {y : MethodName} {bytes : ByteArray} {mx : Nat} {rt : Option FieldType} {a : Array Value} {s : State} {m : MethodId} {meth : Method} {c : Code} (h1 : s.methodNamed? y = some m) (h2 : s.vm.method? m = some meth) (h3 : meth.code = some c) (h4 : c.code = bytes)
    (h5 : (c.maxLocals == mx && c.exceptionTable.isEmpty && decide (c.maxStack ≤ mostOperands) && decide (meth.sig.returnType = rt) && !meth.locks && decide (parseMethodDescriptor y.desc = some meth.sig)) = true) : (Jvm.Cond.code y bytes mx rt).before a s = true := by
  simp only [Bool.and_eq_true, beq_iff_eq, Bool.not_eq_true', decide_eq_true_eq] at h5
  obtain ⟨⟨⟨⟨⟨g1, g2⟩, g3⟩, g4⟩, g5⟩, g6⟩ := h5
  simp [Cond.before, Cond.holds, Cond.value, h1, h2, h3, h4, g1, g2, g3, g4, g5, g6]
def isCode : Jvm.Cond → Bool
  | .code _ _ _ _ => true
  | _ => false
theorem all_split {L : List Jvm.Cond} {P : Jvm.Cond → Bool} (h1 : L.all (fun c => isCode c || P c) = true) (h2 : ∀ c ∈ L.filter isCode, P c = true) : L.all P = true := by
  refine List.all_eq_true.mpr fun c hc => ?_
  have h := List.all_eq_true.mp h1 c hc
  rcases Bool.eq_false_or_eq_true (isCode c) with hi | hi
  · exact h2 c (List.mem_filter.mpr ⟨hc, hi⟩)
  · simpa [hi] using h
set_option maxRecDepth 65536 in
theorem w_c0 : (Jvm.Cond.code x code maxLocals ret).before args0 about1 = true := code_word (m := ⟨1, 3⟩) (meth := k1m3) (c := k1c3) (by decide +kernel) rfl rfl rfl (by decide +kernel)
set_option maxRecDepth 65536 in
theorem w_c1 : (Jvm.Cond.code ({ cls := "com/example/reshelve/reshelve/io/parquet/RowBuffer", name := "<init>", desc := "(I)V" } : Jvm.MethodName) prog_25_method_2_code (2 : Nat) (Option.none : Option Jvm.ClassFile.FieldType)).before args0 about1 = true := code_word (m := ⟨2, 1⟩) (meth := k2m1) (c := k2c1) (by decide +kernel) rfl rfl rfl (by decide +kernel)
set_option maxRecDepth 65536 in
theorem w_c2 : (Jvm.Cond.code ({ cls := "java/lang/Object", name := "<init>", desc := "()V" } : Jvm.MethodName) object_method_1_code (1 : Nat) (Option.none : Option Jvm.ClassFile.FieldType)).before args0 about1 = true := code_word (m := ⟨0, 0⟩) (meth := k0m0) (c := k0c0) (by decide +kernel) rfl rfl rfl (by decide +kernel)
set_option maxRecDepth 65536 in
theorem w_c3 : (Jvm.Cond.code ({ cls := "com/example/reshelve/reshelve/io/parquet/RowBuffer", name := "skip", desc := "(I)V" } : Jvm.MethodName) prog_25_method_6_code (2 : Nat) (Option.none : Option Jvm.ClassFile.FieldType)).before args0 about1 = true := code_word (m := ⟨2, 4⟩) (meth := k2m4) (c := k2c4) (by decide +kernel) rfl rfl rfl (by decide +kernel)
set_option maxRecDepth 65536 in
theorem w_c4 : (Jvm.Cond.code ({ cls := "com/example/reshelve/reshelve/io/parquet/RowBuffer", name := "room", desc := "(I)V" } : Jvm.MethodName) prog_25_method_17_code (4 : Nat) (Option.none : Option Jvm.ClassFile.FieldType)).before args0 about1 = true := code_word (m := ⟨2, 6⟩) (meth := k2m6) (c := k2c6) (by decide +kernel) rfl rfl rfl (by decide +kernel)
set_option maxRecDepth 65536 in
theorem w_c5 : (Jvm.Cond.code ({ cls := "com/example/reshelve/reshelve/io/parquet/RowBuffer", name := "bytes", desc := "()[B" } : Jvm.MethodName) prog_25_method_3_code (1 : Nat) (Option.some (Jvm.ClassFile.FieldType.array Jvm.ClassFile.FieldType.byte))).before args0 about1 = true := code_word (m := ⟨2, 2⟩) (meth := k2m2) (c := k2c2) (by decide +kernel) rfl rfl rfl (by decide +kernel)
set_option maxRecDepth 65536 in
theorem w_c6 : (Jvm.Cond.code ({ cls := "com/example/reshelve/reshelve/io/parquet/RowBuffer", name := "setVarint", desc := "(IJ)V" } : Jvm.MethodName) prog_25_method_10_code (7 : Nat) (Option.none : Option Jvm.ClassFile.FieldType)).before args0 about1 = true := code_word (m := ⟨2, 5⟩) (meth := k2m5) (c := k2c5) (by decide +kernel) rfl rfl rfl (by decide +kernel)
set_option maxRecDepth 65536 in
theorem w_c7 : (Jvm.Cond.code ({ cls := "com/example/reshelve/reshelve/io/parquet/RowBuffer", name := "length", desc := "()I" } : Jvm.MethodName) prog_25_method_4_code (1 : Nat) (Option.some Jvm.ClassFile.FieldType.int)).before args0 about1 = true := code_word (m := ⟨2, 3⟩) (meth := k2m3) (c := k2c3) (by decide +kernel) rfl rfl rfl (by decide +kernel)
set_option maxRecDepth 65536 in
theorem w_c8 : (Jvm.Cond.code ({ cls := "com/example/reshelve/reshelve/io/parquet/RowBufferSetVarintPinLaw", name := "at", desc := "([BIIJB)Z" } : Jvm.MethodName) method_3_code (6 : Nat) (Option.some Jvm.ClassFile.FieldType.boolean)).before args0 about1 = true := code_word (m := ⟨1, 2⟩) (meth := k1m2) (c := k1c2) (by decide +kernel) rfl rfl rfl (by decide +kernel)
set_option maxRecDepth 65536 in
theorem w_c9 : (Jvm.Cond.code ({ cls := "com/example/reshelve/reshelve/io/parquet/RowBufferSetVarintPinLaw", name := "expected", desc := "(JIB)B" } : Jvm.MethodName) method_2_code (7 : Nat) (Option.some Jvm.ClassFile.FieldType.byte)).before args0 about1 = true := code_word (m := ⟨1, 1⟩) (meth := k1m1) (c := k1c1) (by decide +kernel) rfl rfl rfl (by decide +kernel)
def codes1 : List Jvm.Cond := [Jvm.Cond.code x code maxLocals ret, Jvm.Cond.code ({ cls := "com/example/reshelve/reshelve/io/parquet/RowBuffer", name := "<init>", desc := "(I)V" } : Jvm.MethodName) prog_25_method_2_code (2 : Nat) (Option.none : Option Jvm.ClassFile.FieldType), Jvm.Cond.code ({ cls := "java/lang/Object", name := "<init>", desc := "()V" } : Jvm.MethodName) object_method_1_code (1 : Nat) (Option.none : Option Jvm.ClassFile.FieldType), Jvm.Cond.code ({ cls := "com/example/reshelve/reshelve/io/parquet/RowBuffer", name := "skip", desc := "(I)V" } : Jvm.MethodName) prog_25_method_6_code (2 : Nat) (Option.none : Option Jvm.ClassFile.FieldType), Jvm.Cond.code ({ cls := "com/example/reshelve/reshelve/io/parquet/RowBuffer", name := "room", desc := "(I)V" } : Jvm.MethodName) prog_25_method_17_code (4 : Nat) (Option.none : Option Jvm.ClassFile.FieldType), Jvm.Cond.code ({ cls := "com/example/reshelve/reshelve/io/parquet/RowBuffer", name := "bytes", desc := "()[B" } : Jvm.MethodName) prog_25_method_3_code (1 : Nat) (Option.some (Jvm.ClassFile.FieldType.array Jvm.ClassFile.FieldType.byte)), Jvm.Cond.code ({ cls := "com/example/reshelve/reshelve/io/parquet/RowBuffer", name := "setVarint", desc := "(IJ)V" } : Jvm.MethodName) prog_25_method_10_code (7 : Nat) (Option.none : Option Jvm.ClassFile.FieldType), Jvm.Cond.code ({ cls := "com/example/reshelve/reshelve/io/parquet/RowBuffer", name := "length", desc := "()I" } : Jvm.MethodName) prog_25_method_4_code (1 : Nat) (Option.some Jvm.ClassFile.FieldType.int), Jvm.Cond.code ({ cls := "com/example/reshelve/reshelve/io/parquet/RowBufferSetVarintPinLaw", name := "at", desc := "([BIIJB)Z" } : Jvm.MethodName) method_3_code (6 : Nat) (Option.some Jvm.ClassFile.FieldType.boolean), Jvm.Cond.code ({ cls := "com/example/reshelve/reshelve/io/parquet/RowBufferSetVarintPinLaw", name := "expected", desc := "(JIB)B" } : Jvm.MethodName) method_2_code (7 : Nat) (Option.some Jvm.ClassFile.FieldType.byte)]
set_option maxRecDepth 65536 in
theorem codes_eq : words1.filter isCode = codes1 := rfl
theorem w_codes : ∀ c ∈ words1.filter isCode, c.before args0 about1 = true := by
  rw [codes_eq]
  intro c hc
  simp only [codes1, List.mem_cons, List.not_mem_nil, or_false] at hc
  rcases hc with rfl | rfl | rfl | rfl | rfl | rfl | rfl | rfl | rfl | rfl
  · exact w_c0
  · exact w_c1
  · exact w_c2
  · exact w_c3
  · exact w_c4
  · exact w_c5
  · exact w_c6
  · exact w_c7
  · exact w_c8
  · exact w_c9
set_option maxRecDepth 65536 in
theorem w_t1 : (words1.take 24).all (fun c => isCode c || c.before args0 about1) = true := by decide +kernel
set_option maxRecDepth 65536 in
theorem w_t2 : ((words1.drop 24).take 24).all (fun c => isCode c || c.before args0 about1) = true := by decide +kernel
set_option maxRecDepth 65536 in
theorem w_t3 : ((words1.drop 24).drop 24).all (fun c => isCode c || c.before args0 about1) = true := by decide +kernel
theorem w_tables : (allAtoms (Jvm.Cond.code x code maxLocals ret :: tables_1)).before args0 about1 = true := by
  rw [allAtoms_all]
  show words1.all (fun c => c.before args0 about1) = true
  refine all_split ?_ w_codes
  rw [← List.take_append_drop 24 words1, List.all_append, w_t1, ← List.take_append_drop 24 (words1.drop 24), List.all_append, w_t2, w_t3]
  rfl
set_option maxRecDepth 65536 in
theorem w_case : (Jvm.Cond.and given_1 narrow_1).before args0 about1 = true := by decide +kernel
theorem w_applies : (headSpec (Jvm.Cond.code x code maxLocals ret :: tables_1) room_1).applies x e0.platform about1 = true :=
  (Spec.applies_iff w_frames).mpr ⟨w_running, w_runnable, w_alone, w_named, w_hears, w_ripe, w_room, w_tables⟩
theorem atStart : AtStart classFile x code maxLocals ret World_1 tables_1 room_1 Calls_1 rest_1 Pre_1 launch0 p0 e0 about1 theMethod args0 below0 :=
  ⟨lists_1, trivial, launch0.admits_env _ _ _, launch0.least_env, fairChoices_fair.cas, fairChoices_fair.clock, w_frames, w_args, w_heap, w_applies, trivial, trivial, w_case⟩
end start1
theorem witness_1 : WitnessClaimed_1 := ⟨start1.p0, start1.e0, start1.about1, start1.theMethod, start1.args0, start1.below0, start1.atStart⟩
end Jvm.Pilot.@@N@@
