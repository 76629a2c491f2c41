import JvmDerived
import JvmDerived.Pilot.@@N@@Statement
import JvmDerived.Pilot.@@N@@Code
set_option linter.unusedVariables false
set_option linter.unusedSimpArgs false
namespace Jvm.Own
open Jvm Sem ClassFile Op Lib Jvm.Free Jvm.Stand Jvm.LawKit Jvm.RoadKit Bundle
/-! The walker's core: a walk's goal as 'Run', where it stands as 'Pos', a callee as 'Con'; one law a step, the rest of the walk handed in last. -/
abbrev fr (m : MethodId) (pc : Nat) (L : List Slot) (S : List Value) : JFrame := mkF m pc ⟨L⟩ S
abbrev c16 (x : Int32) : Int32 := x.toUInt32.toUInt16.toUInt32.toInt32
def Run (tb : Tables) (e : Env) (below : List Frame) (F : State → Outcome → Prop) (T : State) (g : JFrame) : Prop := ∃ t o, Steps tb e below (T.setTop g) t ∧ F t o
section Basics
variable {tb : Tables} {e : Env} {below : List Frame} {F : State → Outcome → Prop} {T T' : State} {g g' : JFrame}
theorem Run.go (st : ∀ target, Steps tb e below (T'.setTop g') target → Steps tb e below (T.setTop g) target) (r : Run tb e below F T' g') : Run tb e below F T g := by
  obtain ⟨t, o, h1, h2⟩ := r; exact ⟨t, o, st _ h1, h2⟩
theorem Run.after (st : Steps tb e below (T.setTop g) (T'.setTop g')) (r : Run tb e below F T' g') : Run tb e below F T g := by
  obtain ⟨t, o, h1, h2⟩ := r; exact ⟨t, o, st.trans h1, h2⟩
theorem Run.cast (q : g = g') (r : Run tb e below F T g') : Run tb e below F T g := q ▸ r
end Basics
/-! ### plain instructions, many at once -/
def lget : List Slot → Nat → Option Slot
  | [], _ => none
  | a :: _, 0 => some a
  | _ :: r, n + 1 => lget r n
def lset : List Slot → Nat → Slot → List Slot
  | [], _, _ => []
  | _ :: r, 0, x => x :: r
  | a :: r, n + 1, x => a :: lset r n x
theorem lget_eq : ∀ (L : List Slot) (i : Nat), (⟨L⟩ : Array Slot)[i]? = lget L i
  | [], _ => rfl
  | _ :: _, 0 => rfl
  | _ :: r, n + 1 => by
    have := lget_eq r n
    simp only [List.getElem?_toArray] at this ⊢
    simpa [lget] using this
theorem lset_eq : ∀ (L : List Slot) (i : Nat) (x : Slot), (⟨L⟩ : Array Slot).setIfInBounds i x = ⟨lset L i x⟩
  | [], _, _ => by simp [lset]
  | _ :: _, 0, _ => by simp [lset]
  | _ :: r, n + 1, x => by
    have := lset_eq r n x
    simp only [List.setIfInBounds_toArray, List.set_cons_succ, lset] at this ⊢
    have h2 : r.set n x = lset r n x := by injection this
    rw [h2]
theorem lset_len : ∀ (L : List Slot) (i : Nat) (x : Slot), (lset L i x).length = L.length
  | [], _, _ => rfl
  | _ :: _, 0, _ => rfl
  | _ :: r, n + 1, x => by simp [lset, lset_len r n x]
def one (o : Option Slot) : Bool := match o with
  | some .unset => true
  | some (.val (.int _)) => true
  | some (.val (.ref _)) => true
  | some (.val .null) => true
  | _ => false
def ldI (o : Option Slot) (L : List Slot) (S : List Value) : Option (List Slot × List Value) := match o with
  | some (.val (.int v)) => some (L, .int v :: S)
  | _ => none
def ldJ (o : Option Slot) (L : List Slot) (S : List Value) : Option (List Slot × List Value) := match o with
  | some (.val (.long v)) => some (L, .long v :: S)
  | _ => none
def ldA (o : Option Slot) (L : List Slot) (S : List Value) : Option (List Slot × List Value) := match o with
  | some (.val (.ref v)) => some (L, .ref v :: S)
  | some (.val .null) => some (L, .null :: S)
  | _ => none
def op2 (f : Int32 → Int32 → Int32) (L : List Slot) (S : List Value) : Option (List Slot × List Value) := match S with
  | .int y :: .int x :: S => some (L, .int (f x y) :: S)
  | _ => none
def op1 (f : Int32 → Int32) (L : List Slot) (S : List Value) : Option (List Slot × List Value) := match S with
  | .int x :: S => some (L, .int (f x) :: S)
  | _ => none
def opJ (f : Int64 → Int64 → Int64) (L : List Slot) (S : List Value) : Option (List Slot × List Value) := match S with
  | .long y :: .long x :: S => some (L, .long (f x y) :: S)
  | _ => none
def opJI (f : Int64 → Int32 → Int64) (L : List Slot) (S : List Value) : Option (List Slot × List Value) := match S with
  | .int y :: .long x :: S => some (L, .long (f x y) :: S)
  | _ => none
def opJ1 (f : Int64 → Int32) (L : List Slot) (S : List Value) : Option (List Slot × List Value) := match S with
  | .long x :: S => some (L, .int (f x) :: S)
  | _ => none
def dupS (L : List Slot) (S : List Value) : Option (List Slot × List Value) := match S with
  | .int x :: S => some (L, .int x :: .int x :: S)
  | .ref x :: S => some (L, .ref x :: .ref x :: S)
  | .null :: S => some (L, .null :: .null :: S)
  | _ => none
def popS (L : List Slot) (S : List Value) : Option (List Slot × List Value) := match S with
  | .int _ :: S => some (L, S)
  | .ref _ :: S => some (L, S)
  | .null :: S => some (L, S)
  | _ => none
def stI (k : Nat) (L : List Slot) (S : List Value) : Option (List Slot × List Value) := match S with
  | .int x :: S => if one (lget L k) then some (lset L k (.val (.int x)), S) else none
  | _ => none
def stA (k : Nat) (L : List Slot) (S : List Value) : Option (List Slot × List Value) := match S with
  | .ref x :: S => if one (lget L k) then some (lset L k (.val (.ref x)), S) else none
  | .null :: S => if one (lget L k) then some (lset L k (.val .null), S) else none
  | _ => none
def stJ (k : Nat) (L : List Slot) (S : List Value) : Option (List Slot × List Value) := match S with
  | .long x :: S => if one (lget L k) && one (lget L (k + 1)) then some (lset (lset L k (.val (.long x))) (k + 1) .second, S) else none
  | _ => none
def inc (k : Nat) (c : Int) (L : List Slot) (S : List Value) : Option (List Slot × List Value) := match lget L k with
  | some (.val (.int x)) => some (lset L k (.val (.int (x + Int32.ofInt c))), S)
  | _ => none
/-- what a plain instruction makes of the locals and the stack -/
def pst (i : Instr) (L : List Slot) (S : List Value) : Option (List Slot × List Value) := match i with
  | .iload_n k => ldI (lget L k.val) L S
  | .iload k => ldI (lget L k) L S
  | .lload_n k => ldJ (lget L k.val) L S
  | .lload k => ldJ (lget L k) L S
  | .aload_n k => ldA (lget L k.val) L S
  | .aload k => ldA (lget L k) L S
  | .iconst i => some (L, .int (Int32.ofInt i) :: S)
  | .bipush i => some (L, .int (Int8.ofInt i).toInt32 :: S)
  | .sipush i => some (L, .int (Int16.ofInt i).toInt32 :: S)
  | .aconst_null => some (L, .null :: S)
  | .dup => dupS L S
  | .pop => popS L S
  | .iadd => op2 (· + ·) L S
  | .isub => op2 (· - ·) L S
  | .iand => op2 (· &&& ·) L S
  | .ior => op2 (· ||| ·) L S
  | .ishl => op2 (fun x y => x <<< (y &&& 31)) L S
  | .ishr => op2 (fun x y => x >>> (y &&& 31)) L S
  | .iushr => op2 XT.ushr L S
  | .i2c => op1 c16 L S
  | .i2b => op1 (fun x => x.toInt8.toInt32) L S
  | .l2i => opJ1 (fun x => x.toInt32) L S
  | .land => opJ (· &&& ·) L S
  | .lushr => opJI XT.ushrL L S
  | .istore k => stI k L S
  | .istore_n k => stI k.val L S
  | .astore k => stA k L S
  | .astore_n k => stA k.val L S
  | .lstore k => stJ k L S
  | .lstore_n k => stJ k.val L S
  | .iinc k c => inc k c L S
  | _ => none
def plen (i : Instr) : Nat := match i with
  | .iload _ => 2
  | .lload _ => 2
  | .aload _ => 2
  | .istore _ => 2
  | .lstore _ => 2
  | .astore _ => 2
  | .bipush _ => 2
  | .sipush _ => 3
  | .iinc _ _ => 3
  | _ => 1
def prun : List Instr → Nat → List Slot → List Value → Option (Nat × List Slot × List Value)
  | [], pc, L, S => some (pc, L, S)
  | i :: r, pc, L, S => match pst i L S with
    | some (L', S') => prun r (pc + plen i) L' S'
    | none => none
def decs (b : ByteArray) : Nat → List Instr → Bool
  | _, [] => true
  | pc, i :: r => decide (decode b pc = .ok (i, plen i)) && decs b (pc + plen i) r
section Plain
variable {tb : Tables} [Ours tb] {e : Env} {below : List Frame} {T target : State} {m : MethodId} {c : Code} {pc : Nat} {L L' : List Slot} {S S' : List Value}
theorem one_spec {l : List Slot} {k : Nat} (h : one (lget l k) = true) : ∃ o, (⟨l⟩ : Array Slot)[k]? = some o ∧ (o = .unset ∨ ∃ w, o = .val w ∧ w.category = 1) := by
  rw [lget_eq]
  cases hq : lget l k with
  | none => rw [hq] at h; cases h
  | some o =>
    rw [hq] at h
    refine ⟨o, rfl, ?_⟩
    cases o with
    | unset => exact Or.inl rfl
    | second => cases h
    | val w => cases w <;> first | exact Or.inr ⟨_, rfl, rfl⟩ | cases h
theorem one_store {l : List Slot} {k : Nat} {v : Value} (h : one (lget l k) = true) (hv : v.category = 1) : storeLocals ⟨l⟩ k v = some ⟨lset l k (.val v)⟩ := by
  obtain ⟨o, h1, h2⟩ := one_spec h
  rw [XS.store1 h1 h2 hv, lset_eq]
theorem lget_lset_ne : ∀ (l : List Slot) (i j : Nat) (x : Slot), i ≠ j → lget (lset l i x) j = lget l j
  | [], _, _, _, _ => rfl
  | _ :: _, 0, 0, _, h => absurd rfl h
  | _ :: _, 0, _ + 1, _, _ => rfl
  | _ :: _, _ + 1, 0, _, _ => rfl
  | _ :: r, i + 1, j + 1, x, h => lget_lset_ne r i j x (by omega)
theorem two_store {l : List Slot} {k : Nat} {x : Int64} (h : one (lget l k) = true) (h' : one (lget l (k + 1)) = true) : storeLocals ⟨l⟩ k (.long x) = some ⟨lset (lset l k (.val (.long x))) (k + 1) .second⟩ := by
  obtain ⟨o, h1, h2⟩ := one_spec h
  obtain ⟨o', g1, g2⟩ := one_spec h'
  have hk : k < l.length := by have := (Array.getElem?_eq_some_iff.mp h1).1; simpa using this
  have hk' : k + 1 < l.length := by have := (Array.getElem?_eq_some_iff.mp g1).1; simpa using this
  have g3 : (⟨lset l k (.val (.long x))⟩ : Array Slot)[k + 1]? = some o' := by rw [lget_eq, lget_lset_ne _ _ _ _ (by omega), ← lget_eq]; exact g1
  have s1 : setAt ⟨l⟩ k (.val (.long x)) = some ⟨lset l k (.val (.long x))⟩ := by unfold setAt; rw [if_pos (by simpa using hk), lset_eq]
  have s2 : setAt ⟨lset l k (.val (.long x))⟩ (k + 1) .second = some ⟨lset (lset l k (.val (.long x))) (k + 1) .second⟩ := by unfold setAt; rw [if_pos (by simpa [lset_len] using hk'), lset_eq]
  have s3 : storeSelf ⟨l⟩ k (.long x) = some ⟨lset (lset l k (.val (.long x))) (k + 1) .second⟩ := by
    unfold storeSelf
    simp only [s1, Option.bind_eq_bind, Option.bind_some, show (Value.long x).category = 2 from rfl, if_true, g3]
    rcases g2 with rfl | ⟨w, rfl, hw⟩
    · exact s2
    · simp only [hw, show ¬ (1 : Nat) = 2 by decide, if_false]; exact s2
  unfold storeLocals
  simp only [h1, Option.bind_eq_bind, Option.bind_some]
  rcases h2 with rfl | ⟨w, rfl, hw⟩
  · exact s3
  · simp only [hw, show ¬ (1 : Nat) = 2 by decide, if_false]; exact s3
theorem pst_ok {i : Instr} (h : At T m c below) (hx : tb.exec = Jvm.exec) (hd : decode c.code pc = .ok (i, plen i)) (hp : pst i L S = some (L', S'))
    (r : Steps tb e below (T.setTop (fr m (pc + plen i) L' S')) target) : Steps tb e below (T.setTop (fr m pc L S)) target := by
  unfold pst at hp
  split at hp
  case h_1 k => unfold ldI at hp; split at hp <;> cases hp; rename_i q; exact XS.iloadN h hx rfl hd ((lget_eq _ _).trans q) r
  case h_2 k => unfold ldI at hp; split at hp <;> cases hp; rename_i q; exact XS.iload h hx rfl hd ((lget_eq _ _).trans q) r
  case h_3 k => unfold ldJ at hp; split at hp <;> cases hp; rename_i q; exact XT.lloadN h hx rfl hd ((lget_eq _ _).trans q) r
  case h_4 k => unfold ldJ at hp; split at hp <;> cases hp; rename_i q; exact XT.lload h hx rfl hd ((lget_eq _ _).trans q) r
  case h_5 k => unfold ldA at hp; split at hp <;> cases hp <;> (rename_i q; exact XS.aloadN h hx rfl hd ((lget_eq _ _).trans q) rfl r)
  case h_6 k => unfold ldA at hp; split at hp <;> cases hp <;> (rename_i q; exact XS.aload h hx rfl hd ((lget_eq _ _).trans q) rfl r)
  case h_7 i => cases hp; exact XS.iconst h hx rfl hd r
  case h_8 i => cases hp; exact XS.bipush h hx rfl hd r
  case h_9 i => cases hp; exact XS.sipush h hx rfl hd r
  case h_10 => cases hp; exact XS.aconstNull h hx rfl hd r
  case h_11 => unfold dupS at hp; split at hp <;> cases hp <;> exact XS.dup h hx rfl hd rfl rfl r
  case h_12 => unfold popS at hp; split at hp <;> cases hp <;> exact XT.pop h hx rfl hd rfl rfl r
  case h_13 => unfold op2 at hp; split at hp <;> cases hp; exact XS.iadd h hx rfl hd rfl r
  case h_14 => unfold op2 at hp; split at hp <;> cases hp; exact XS.isub h hx rfl hd rfl r
  case h_15 => unfold op2 at hp; split at hp <;> cases hp; exact XS.iand h hx rfl hd rfl r
  case h_16 => unfold op2 at hp; split at hp <;> cases hp; exact XT.ior h hx rfl hd rfl r
  case h_17 => unfold op2 at hp; split at hp <;> cases hp; exact XT.ishl h hx rfl hd rfl r
  case h_18 => unfold op2 at hp; split at hp <;> cases hp; exact XT.ishr h hx rfl hd rfl r
  case h_19 => unfold op2 at hp; split at hp <;> cases hp; exact XT.iushr h hx rfl hd rfl r
  case h_20 => unfold op1 at hp; split at hp <;> cases hp; exact XT.i2c h hx rfl hd rfl r
  case h_21 => unfold op1 at hp; split at hp <;> cases hp; exact XT.i2b h hx rfl hd rfl r
  case h_22 => unfold opJ1 at hp; split at hp <;> cases hp; exact XT.l2i h hx rfl hd rfl r
  case h_23 => unfold opJ at hp; split at hp <;> cases hp; exact XT.land h hx rfl hd rfl r
  case h_24 => unfold opJI at hp; split at hp <;> cases hp; exact XT.lushr h hx rfl hd rfl r
  case h_25 k => unfold stI at hp; split at hp <;> first | cases hp | (split at hp <;> cases hp; rename_i q; exact XS.istore h hx rfl hd rfl (one_store q rfl) r)
  case h_26 k => unfold stI at hp; split at hp <;> first | cases hp | (split at hp <;> cases hp; rename_i q; exact XS.istoreN h hx rfl hd rfl (one_store q rfl) r)
  case h_27 k => unfold stA at hp; split at hp <;> first | cases hp | (split at hp <;> cases hp; rename_i q; exact XS.astore h hx rfl hd rfl rfl (one_store q rfl) r)
  case h_28 k => unfold stA at hp; split at hp <;> first | cases hp | (split at hp <;> cases hp; rename_i q; exact XS.astoreN h hx rfl hd rfl rfl (one_store q rfl) r)
  case h_29 k => unfold stJ at hp; split at hp <;> first | cases hp | (split at hp <;> cases hp; rename_i q; exact XT.lstore h hx rfl hd rfl (two_store (Bool.and_eq_true_iff.mp q).1 (Bool.and_eq_true_iff.mp q).2) r)
  case h_30 k => unfold stJ at hp; split at hp <;> first | cases hp | (split at hp <;> cases hp; rename_i q; exact XT.lstoreN h hx rfl hd rfl (two_store (Bool.and_eq_true_iff.mp q).1 (Bool.and_eq_true_iff.mp q).2) r)
  case h_31 k cc => unfold inc at hp; split at hp <;> cases hp; rename_i q; exact XS.iinc h hx rfl hd ((lget_eq _ _).trans q) (one_store (by rw [q]; rfl) rfl) r
  case h_32 => cases hp
theorem prun_ok (h : At T m c below) (hx : tb.exec = Jvm.exec) : ∀ (is : List Instr) {pc pc' : Nat} {L L' : List Slot} {S S' : List Value}, decs c.code pc is = true → prun is pc L S = some (pc', L', S') →
    Steps tb e below (T.setTop (fr m pc' L' S')) target → Steps tb e below (T.setTop (fr m pc L S)) target
  | [], _, _, _, _, _, _, _, hp, r => by cases hp; exact r
  | i :: is, pc, pc', L, L', S, S', hd, hp, r => by
    simp only [decs, Bool.and_eq_true, decide_eq_true_eq] at hd
    unfold prun at hp
    split at hp
    · rename_i L1 S1 q
      exact pst_ok h hx hd.1 q (prun_ok h hx is hd.2 hp r)
    · cases hp
end Plain
end Jvm.Own
namespace Jvm.Own
open Jvm Sem ClassFile Op Lib Jvm.Free Jvm.Stand Jvm.LawKit Jvm.RoadKit Bundle
/-- what stays as it is while a body is walked -/
def Ctx (Z : State) (a0 : Array Value) (EL : List (String × Nat)) (p : Program) (s : State) (m : MethodId) (meth : Method) (c : Code) (own name : String) (bytes : ByteArray) (maxL : Nat) (ret : Option FieldType) : Prop :=
  p.tables.exec = Jvm.exec ∧ Z.Warmed39 s.vm ∧ s.vm.findClass own = some m.cls ∧ c.code = bytes ∧ c.maxLocals = maxL ∧ meth.sig.returnType = ret ∧ meth.name = name ∧ meth.locks = false ∧ EW Z a0 EL
/-- where a walk stands: its heap is h; all that it has written is new since Z -/
def Pos (Z : State) (EL : List (String × Nat)) (n0 : Nat) (p : Program) (l : Launch) (e : Env) (R : Room) (s : State) (m : MethodId) (args : Array Value) (below : List Frame) (meth : Method) (c : Code) (T : State) (h : Heap) (k n : Nat) : Prop :=
  ∃ (vm0 : Vm) (k0 : Nat) (locs : List Loc), Stand p l e R (s.setVm vm0) m args below meth c T locs k n ∧ T.heap = h ∧ s.Since vm0 k0 ∧ k0 ≤ h.size ∧ CHr Z EL s.vm s.heap vm0 h ∧ Fr n0 locs ∧ Old Z n0 h
/-- how a body's run ends -/
def Ends (Z : State) (EL : List (String × Nat)) (n0 : Nat) (rm : Room) (below : List Frame) (Q : Option Value → Heap → Prop) (s : State) (t : State) (o : Outcome) : Prop :=
  t.status = .running ∧ Ended t below o ∧ ∃ v L, o = .returned v ∧ (Q v t.heap ∧ Fr n0 L ∧ Old Z n0 t.heap) ∧ CHr Z EL s.vm s.heap t.vm t.heap ∧ ReturnedEndW s o t L rm.cells rm.slots
/-- a callee's contract -/
def Con (l : Launch) (Z : State) (EL : List (String × Nat)) (n0 : Nat) (ws : List Jvm.Cond) (y : MethodName) (bytes : ByteArray) (maxL : Nat) (ret : Option FieldType) (rm : Room) (as' : Array Value) (h : Heap) (Q : Option Value → Heap → Prop) : Prop :=
  MetFree l y (head1 (Jvm.Cond.code y bytes maxL ret :: ws) rm) (fun a U => a = as' ∧ Z.Warmed39 U.vm ∧ U.heap = h ∧ CHv Z EL U.vm h) (fun _ _ _ _ _ => True)
    (fun _ U o U' => ∃ v L, o = .returned v ∧ (Q v U'.heap ∧ Fr n0 L ∧ Old Z n0 U'.heap) ∧ CHr Z EL U.vm U.heap U'.vm U'.heap ∧ ReturnedEndW U o U' L rm.cells rm.slots)
def Ret1 (Q : Value → Heap → Prop) (v : Option Value) (h : Heap) : Prop := ∃ w, v = some w ∧ Q w h
def Ret0 (Q : Heap → Prop) (v : Option Value) (h : Heap) : Prop := v = none ∧ Q h
theorem exR (h : Heap) : Ext h h := ⟨Nat.le_refl _, fun _ _ q => q⟩
theorem exT {h0 h h' : Heap} (E : Ext h0 h) (E' : Ext h h') : Ext h0 h' := ⟨Nat.le_trans E.1 E'.1, fun a c q => E'.2 a c (E.2 a c q)⟩
theorem exK {h0 h h' : Heap} {a : Addr} (E : Ext h0 h) (K : Keep h h' [a]) (q : h0.size ≤ a) : Ext h0 h' := ⟨Nat.le_trans E.1 K.1, fun x c r => K.2.1 x c (E.2 x c r) fun z => by
  cases List.mem_singleton.mp z
  exact absurd (Array.getElem?_eq_some_iff.mp r).1 (Nat.not_lt.mpr q)⟩
theorem exK0 {h0 h h' : Heap} (E : Ext h0 h) (K : Keep h h' []) : Ext h0 h' := ⟨Nat.le_trans E.1 K.1, fun x c r => K.2.1 x c (E.2 x c r) fun z => by cases z⟩
/-- an object under construction -/
def Blk (Z : State) (a0 : Array Value) (n0 : Nat) (h : Heap) (a : Addr) (C : String) : Prop := n0 ≤ a ∧ Exa Z h a C ∧ ∀ {O nm d : String} {ty : FieldType}, Laid Z a0 C O nm d → parseFieldDescriptor d = some ty → Fld Z h a O nm d (defaultValue ty)
theorem Blk.ext {Z : State} {a0 : Array Value} {n0 : Nat} {h h' : Heap} {a : Addr} {C : String} (B : Blk Z a0 n0 h a C) (E : Ext h h') : Blk Z a0 n0 h' a C := ⟨B.1, B.2.1.ext E, fun L q => (B.2.2 L q).ext E⟩
theorem Blk.keep {Z : State} {a0 : Array Value} {n0 : Nat} {h h' : Heap} {a : Addr} {C : String} {ws : List Addr} (B : Blk Z a0 n0 h a C) (K : Keep h h' ws) (q : a ∉ ws) : Blk Z a0 n0 h' a C := ⟨B.1, B.2.1.keep K, fun L r => (B.2.2 L r).keep K q⟩
/-- a char[] made by the walk -/
def Chs (Z : State) (n0 : Nat) (h : Heap) (b : Addr) (vs : List Int32) : Prop := n0 ≤ b ∧ vs.length ≤ 4000 ∧ ∃ k, Arv Z h b k .char (Int32.ofNat vs.length) (vs.map Value.int) (.int 0)
theorem Chs.ext {Z : State} {n0 : Nat} {h h' : Heap} {b : Addr} {vs : List Int32} (B : Chs Z n0 h b vs) (E : Ext h h') : Chs Z n0 h' b vs := by obtain ⟨h1, h2, k, h3⟩ := B; exact ⟨h1, h2, k, h3.ext E⟩
abbrev sST : String := "java/lang/String"
/-- a String that spells cs, each 0 to 255 -/
def Str (Z : State) (h : Heap) (a : Addr) (cs : List Int32) : Prop := cs.length ≤ 4000 ∧ (∀ c ∈ cs, ¬ c < 0 ∧ ¬ (255 : Int32) < c) ∧ Exa Z h a sST ∧ Fld Z h a sST "coder" "B" (.int 0) ∧
  ∃ t k, Fld Z h a sST "value" "[B" (.ref t) ∧ Arv Z h t k .byte (Int32.ofNat cs.length) ((cs.map fun c => c.toInt8.toInt32).map Value.int) (.int 0)
section StrF
variable {Z : State} {a0 : Array Value} {n0 : Nat} {h h' : Heap} {a b : Addr} {cs : List Int32} {C : String} {n : Nat}
theorem Str.exa (S : Str Z h a cs) : Exa Z h a sST := S.2.2.1
theorem Str.ext (S : Str Z h a cs) (E : Ext h h') : Str Z h' a cs := by obtain ⟨h1, h2, h3, h4, t, k, h5, h6⟩ := S; exact ⟨h1, h2, h3.ext E, h4.ext E, t, k, h5.ext E, h6.ext E⟩
theorem Str.keep (S : Str Z h b cs) (K : Keep h h' [a]) (B : Exa Z h a C) (hne : b ≠ a) (wi : (Jvm.Cond.instantiable C n).before a0 Z = true) : Str Z h' b cs := by
  obtain ⟨h1, h2, h3, h4, t, k, h5, h6⟩ := S
  exact ⟨h1, h2, h3.keep K, h4.keep K (ninS hne nin0), t, k, h5.keep K (ninS hne nin0), h6.keep K (ninS (B.neArv h6 wi).symm nin0)⟩
theorem Str.keepO (S : Str Z h b cs) (K : Keep h h' [a]) (B : Exa Z h a C) (hC : C ≠ sST) (wi : (Jvm.Cond.instantiable C n).before a0 Z = true) : Str Z h' b cs := S.keep K B (ne_exa S.exa B hC.symm) wi
theorem Str.keepS (S : Str Z h b cs) (K : Keep h h' [a]) (B : Blk Z a0 n0 h a sST) (wl : (Jvm.Cond.laysFinal sST sST "value" "[B").before a0 Z = true) (wi : (Jvm.Cond.instantiable sST n).before a0 Z = true) : Str Z h' b cs := by
  have hv : Fld Z h a sST "value" "[B" .null := B.2.2 (Or.inr wl) (ty := .array .byte) (by decide)
  obtain ⟨t, k, h5, -⟩ := S.2.2.2.2
  exact S.keep K B.2.1 (Fld.ne h5 hv (by simp)) wi
end StrF
theorem safe_blank {Z : State} {EL : List (String × Nat)} {vm : Vm} {h : Heap} {x : Addr} (hal : Z.vm.Alike vm) (E : Exa Z h x sST) (V : Fld Z h x sST "value" "[B" .null) : Safe Z EL vm h x := fun B => by
  obtain ⟨cell, kc, e1, e2, -⟩ := E
  obtain ⟨p, -, u, a, -, q, -, F, rfl | rfl⟩ := B
  · have f1 := F.ha
    obtain ⟨cS, ⟨⟨s1, s2, s3, ⟨cv, kv, iv, s4, s4'⟩, s5, s6, s7, s8, -⟩, -, -⟩, -⟩ := F
    obtain ⟨kv', z4⟩ := ff_back (U := Wst Z vm h) hal s4
    obtain ⟨cell', cf, k, i, f, v1, v2, -, -, -, -, v7⟩ := V
    cases (show h[q.sa]? = some q.sC from f1).symm.trans v1
    cases v2.symm.trans z4
    rw [s8] at v7; cases v7
  · have f2 := F.hd
    obtain ⟨cS, -, -, f, -⟩ := F
    cases (show h[q.sd]? = some q.SA from f2).symm.trans e1
    have f' : Z.vm.findClass "[B" = some q.SA.cls := by rw [← hal.findClass]; exact f
    obtain ⟨k1, q1, q2⟩ := Vm.findClass_spec f'
    obtain ⟨k2, q3, q4⟩ := Vm.findClass_spec e2
    cases q1.symm.trans q3
    have : "[B" = "java/lang/String" := q2.symm.trans q4
    exact absurd this (by decide)
section Walk
variable {Z : State} {a0 : Array Value} {EL : List (String × Nat)} {n0 : Nat} {p : Program} {l : Launch} {e : Env} {R : Room} {s : State} {m : MethodId} {args : Array Value} {below : List Frame} {meth : Method} {c : Code} {own name : String} {bytes : ByteArray} {maxL : Nat} {ret : Option FieldType}
  {F : State → Outcome → Prop} {T : State} {h : Heap} {k n : Nat} {pc pc' : Nat} {L L' : List Slot} {S S' : List Value} {Q : Option Value → Heap → Prop}
theorem Con.intro {ws : List Jvm.Cond} {y : MethodName} (hpl : plainFor y = true) (hO : Old Z n0 h) (hEL : EW Z a0 EL)
    (body : ∀ (p : Program) (e : Env) (s : State) (m : MethodId) (below : List Frame) (meth : Method) (c : Code) (T : State), Ctx Z a0 EL p s m meth c y.cls y.name bytes maxL ret → s.heap = h → Pos Z EL n0 p l e R s m args below meth c T h 0 0 → Run p.tables e below (Ends Z EL n0 R below Q s) T (entryFrame m args maxL)) :
    Con l Z EL n0 ws y bytes maxL ret R args h Q := by
  refine MetFree.of_bodySF hpl hisR ?_
  intro p e s m args' below meth c s₁ Bd hml hP _
  obtain ⟨rfl, hZ, hh, hC⟩ := hP
  have hown : s.vm.findClass y.cls = some m.cls := findClass_of_methodNamed Bd.named
  have hnm := (name_of_methodNamed Bd.named Bd.method).1
  have X0 : Stand p l e R s m args' below meth c s₁ [] 0 0 := Stand.of_body Bd
  have e0 : s₁.heap = h := by rw [← hh, Bd.state]; rfl
  have CR : CHr Z EL s.vm s.heap s.vm h := by rw [hh]; exact CHr.refl hC
  exact body p e s m below meth c s₁ ⟨Bd.exec, hZ, hown, Bd.bytes, hml, Bd.returns, hnm, Bd.notSynchronized, hEL⟩ hh ⟨s.vm, 0, [], X0, e0, (State.WarmedH.refl s).since 0, Nat.zero_le _, CR, Fr.nil n0, hO⟩
theorem Pos.opened (C : Ctx Z a0 EL p s m meth c own name bytes maxL ret) (P : Pos Z EL n0 p l e R s m args below meth c T h k n) :
    ∃ (vm0 : Vm) (k0 : Nat) (locs : List Loc), Stand p l e R (s.setVm vm0) m args below meth c T locs k n ∧ T.heap = h ∧ s.Since vm0 k0 ∧ k0 ≤ h.size ∧ CHr Z EL s.vm s.heap vm0 h ∧ Fr n0 locs ∧ Old Z n0 h ∧ Z.Warmed39 (s.setVm vm0).vm ∧ (s.setVm vm0).vm.findClass own = some m.cls := by
  obtain ⟨vm0, k0, locs, X, eT, hS, hk, hC, hF, hO⟩ := P
  exact ⟨vm0, k0, locs, X, eT, hS, hk, hC, hF, hO, State.Warmed39.trans C.2.1 hS.1, (hS.1.alike.findClass _ _).trans C.2.2.1⟩
theorem Pos.old (P : Pos Z EL n0 p l e R s m args below meth c T h k n) : Old Z n0 h := by obtain ⟨_, _, _, _, _, _, _, _, _, hO⟩ := P; exact hO
theorem Pos.n0le (P : Pos Z EL n0 p l e R s m args below meth c T h k n) : n0 ≤ h.size := by have := P.old; rw [← this.1]; exact this.2.1
theorem Pos.z (P : Pos Z EL n0 p l e R s m args below meth c T h k n) : Ext Z.heap h := P.old.2
theorem Pos.more (P : Pos Z EL n0 p l e R s m args below meth c T h k n) {k' n' : Nat} (hk : k ≤ k') (hn : n ≤ n') : Pos Z EL n0 p l e R s m args below meth c T h k' n' := by
  obtain ⟨vm0, k0, locs, X, r⟩ := P; exact ⟨vm0, k0, locs, X.more hk hn, r⟩
theorem blk (C : Ctx Z a0 EL p s m meth c own name bytes maxL ret) (P : Pos Z EL n0 p l e R s m args below meth c T h k n) (is : List Instr) (hd : decs bytes pc is = true) (hp : prun is pc L S = some (pc', L', S'))
    (r : Run p.tables e below F T (fr m pc' L' S')) : Run p.tables e below F T (fr m pc L S) := by
  obtain ⟨vm0, k0, locs, X, -⟩ := P
  exact Run.go (fun t q => prun_ok X.here C.1 is (by rw [C.2.2.2.1]; exact hd) hp q) r
def icY : ClassFile.Cond → Int32 → Prop
  | .eq, x => x = 0
  | .ne, x => ¬ x = 0
  | .lt, x => x < 0
  | .ge, x => ¬ x < 0
  | .gt, x => 0 < x
  | .le, x => ¬ 0 < x
def icN : ClassFile.Cond → Int32 → Prop
  | .eq, x => ¬ x = 0
  | .ne, x => x = 0
  | .lt, x => ¬ x < 0
  | .ge, x => x < 0
  | .gt, x => ¬ 0 < x
  | .le, x => 0 < x
theorem icY_ok {cd : ClassFile.Cond} {x : Int32} (q : icY cd x) : ifCond.holds cd x = true := by
  cases cd <;> simp only [icY] at q <;> simp [ifCond.holds, q] <;> exact Int32.not_lt.mp q
theorem icN_ok {cd : ClassFile.Cond} {x : Int32} (q : icN cd x) : ifCond.holds cd x = false := by
  cases cd <;> simp only [icN] at q <;> simp [ifCond.holds, q] <;> exact Int32.not_lt.mp q
theorem ic_or (cd : ClassFile.Cond) (x : Int32) : icY cd x ∨ icN cd x := by
  cases cd <;> simp only [icY, icN] <;> first | exact Classical.em _ | exact (Classical.em _).symm
def cmY : ClassFile.Cond → Int32 → Int32 → Prop
  | .eq, x, y => x = y
  | .ne, x, y => ¬ x = y
  | .lt, x, y => x < y
  | .ge, x, y => ¬ x < y
  | .gt, x, y => y < x
  | .le, x, y => ¬ y < x
def cmN : ClassFile.Cond → Int32 → Int32 → Prop
  | .eq, x, y => ¬ x = y
  | .ne, x, y => x = y
  | .lt, x, y => ¬ x < y
  | .ge, x, y => x < y
  | .gt, x, y => ¬ y < x
  | .le, x, y => y < x
theorem cmY_ok {cd : ClassFile.Cond} {x y : Int32} (q : cmY cd x y) : if_icmp.holds cd x y = true := by
  cases cd <;> simp only [cmY] at q <;> simp [if_icmp.holds, q] <;> exact Int32.not_lt.mp q
theorem cmN_ok {cd : ClassFile.Cond} {x y : Int32} (q : cmN cd x y) : if_icmp.holds cd x y = false := by
  cases cd <;> simp only [cmN] at q <;> simp [if_icmp.holds, q] <;> exact Int32.not_lt.mp q
theorem cm_or (cd : ClassFile.Cond) (x y : Int32) : cmY cd x y ∨ cmN cd x y := by
  cases cd <;> simp only [cmY, cmN] <;> first | exact Classical.em _ | exact (Classical.em _).symm
theorem b_goto (C : Ctx Z a0 EL p s m meth c own name bytes maxL ret) (P : Pos Z EL n0 p l e R s m args below meth c T h k n) {o : Int} (hd : decode bytes pc = .ok (.goto o, 3)) (ho : 0 ≤ (pc : Int) + o ∧ ((pc : Int) + o).toNat = pc')
    (r : Run p.tables e below F T (fr m pc' L S)) : Run p.tables e below F T (fr m pc L S) := by
  obtain ⟨vm0, k0, locs, X, -⟩ := P
  exact Run.go (fun t q => XS.goto X.here C.1 rfl (pc0 := pc) rfl (hb C.2.2.2.1 hd) ho.1 ho.2 q) r
theorem b_ifY (C : Ctx Z a0 EL p s m meth c own name bytes maxL ret) (P : Pos Z EL n0 p l e R s m args below meth c T h k n) {cd : ClassFile.Cond} {o : Int} {x : Int32} (hd : decode bytes pc = .ok (.ifCond cd o, 3)) (ho : 0 ≤ (pc : Int) + o ∧ ((pc : Int) + o).toNat = pc') (q : icY cd x)
    (r : Run p.tables e below F T (fr m pc' L S)) : Run p.tables e below F T (fr m pc L (.int x :: S)) := by
  obtain ⟨vm0, k0, locs, X, -⟩ := P
  exact Run.go (fun t z => XS.ifYes X.here C.1 rfl (pc0 := pc) rfl (hb C.2.2.2.1 hd) rfl (icY_ok q) ho.1 ho.2 z) r
theorem b_ifN (C : Ctx Z a0 EL p s m meth c own name bytes maxL ret) (P : Pos Z EL n0 p l e R s m args below meth c T h k n) {cd : ClassFile.Cond} {o : Int} {x : Int32} (hd : decode bytes pc = .ok (.ifCond cd o, 3)) (hq : pc + 3 = pc') (q : icN cd x)
    (r : Run p.tables e below F T (fr m pc' L S)) : Run p.tables e below F T (fr m pc L (.int x :: S)) := by
  subst hq
  obtain ⟨vm0, k0, locs, X, -⟩ := P
  exact Run.go (fun t z => XS.ifNo X.here C.1 rfl (hb C.2.2.2.1 hd) rfl (icN_ok q) z) r
theorem b_if (C : Ctx Z a0 EL p s m meth c own name bytes maxL ret) (P : Pos Z EL n0 p l e R s m args below meth c T h k n) {cd : ClassFile.Cond} {o : Int} {x : Int32} {pn : Nat} (hd : decode bytes pc = .ok (.ifCond cd o, 3)) (ho : 0 ≤ (pc : Int) + o ∧ ((pc : Int) + o).toNat = pc') (hq : pc + 3 = pn)
    (y : icY cd x → Run p.tables e below F T (fr m pc' L S)) (no : icN cd x → Run p.tables e below F T (fr m pn L S)) : Run p.tables e below F T (fr m pc L (.int x :: S)) :=
  (ic_or cd x).elim (fun q => b_ifY C P hd ho q (y q)) (fun q => b_ifN C P hd hq q (no q))
theorem b_cmY (C : Ctx Z a0 EL p s m meth c own name bytes maxL ret) (P : Pos Z EL n0 p l e R s m args below meth c T h k n) {cd : ClassFile.Cond} {o : Int} {x y : Int32} (hd : decode bytes pc = .ok (.if_icmp cd o, 3)) (ho : 0 ≤ (pc : Int) + o ∧ ((pc : Int) + o).toNat = pc') (q : cmY cd x y)
    (r : Run p.tables e below F T (fr m pc' L S)) : Run p.tables e below F T (fr m pc L (.int y :: .int x :: S)) := by
  obtain ⟨vm0, k0, locs, X, -⟩ := P
  exact Run.go (fun t z => XS.icmpYes X.here C.1 rfl (pc0 := pc) rfl (hb C.2.2.2.1 hd) rfl (cmY_ok q) ho.1 ho.2 z) r
theorem b_cmN (C : Ctx Z a0 EL p s m meth c own name bytes maxL ret) (P : Pos Z EL n0 p l e R s m args below meth c T h k n) {cd : ClassFile.Cond} {o : Int} {x y : Int32} (hd : decode bytes pc = .ok (.if_icmp cd o, 3)) (hq : pc + 3 = pc') (q : cmN cd x y)
    (r : Run p.tables e below F T (fr m pc' L S)) : Run p.tables e below F T (fr m pc L (.int y :: .int x :: S)) := by
  subst hq
  obtain ⟨vm0, k0, locs, X, -⟩ := P
  exact Run.go (fun t z => XS.icmpNo X.here C.1 rfl (hb C.2.2.2.1 hd) rfl (cmN_ok q) z) r
theorem b_cm (C : Ctx Z a0 EL p s m meth c own name bytes maxL ret) (P : Pos Z EL n0 p l e R s m args below meth c T h k n) {cd : ClassFile.Cond} {o : Int} {x y : Int32} {pn : Nat} (hd : decode bytes pc = .ok (.if_icmp cd o, 3)) (ho : 0 ≤ (pc : Int) + o ∧ ((pc : Int) + o).toNat = pc') (hq : pc + 3 = pn)
    (yes : cmY cd x y → Run p.tables e below F T (fr m pc' L S)) (no : cmN cd x y → Run p.tables e below F T (fr m pn L S)) : Run p.tables e below F T (fr m pc L (.int y :: .int x :: S)) :=
  (cm_or cd x y).elim (fun q => b_cmY C P hd ho q (yes q)) (fun q => b_cmN C P hd hq q (no q))
theorem b_nullY (C : Ctx Z a0 EL p s m meth c own name bytes maxL ret) (P : Pos Z EL n0 p l e R s m args below meth c T h k n) {o : Int} (hd : decode bytes pc = .ok (.ifnull o, 3)) (ho : 0 ≤ (pc : Int) + o ∧ ((pc : Int) + o).toNat = pc')
    (r : Run p.tables e below F T (fr m pc' L S)) : Run p.tables e below F T (fr m pc L (.null :: S)) := by
  obtain ⟨vm0, k0, locs, X, -⟩ := P
  exact Run.go (fun t z => XS.ifnullYes X.here C.1 rfl (pc0 := pc) rfl (hb C.2.2.2.1 hd) rfl ho.1 ho.2 z) r
theorem b_nullN (C : Ctx Z a0 EL p s m meth c own name bytes maxL ret) (P : Pos Z EL n0 p l e R s m args below meth c T h k n) {o : Int} {a : Addr} (hd : decode bytes pc = .ok (.ifnull o, 3)) (hq : pc + 3 = pc')
    (r : Run p.tables e below F T (fr m pc' L S)) : Run p.tables e below F T (fr m pc L (.ref a :: S)) := by
  subst hq
  obtain ⟨vm0, k0, locs, X, -⟩ := P
  exact Run.go (fun t z => XS.ifnullNo X.here C.1 rfl (hb C.2.2.2.1 hd) rfl z) r
theorem b_nonnullY (C : Ctx Z a0 EL p s m meth c own name bytes maxL ret) (P : Pos Z EL n0 p l e R s m args below meth c T h k n) {o : Int} {a : Addr} (hd : decode bytes pc = .ok (.ifnonnull o, 3)) (ho : 0 ≤ (pc : Int) + o ∧ ((pc : Int) + o).toNat = pc')
    (r : Run p.tables e below F T (fr m pc' L S)) : Run p.tables e below F T (fr m pc L (.ref a :: S)) := by
  obtain ⟨vm0, k0, locs, X, -⟩ := P
  exact Run.go (fun t z => XT.ifnonnullYes X.here C.1 rfl (pc0 := pc) rfl (hb C.2.2.2.1 hd) rfl ho.1 ho.2 z) r
theorem b_nonnullN (C : Ctx Z a0 EL p s m meth c own name bytes maxL ret) (P : Pos Z EL n0 p l e R s m args below meth c T h k n) {o : Int} (hd : decode bytes pc = .ok (.ifnonnull o, 3)) (hq : pc + 3 = pc')
    (r : Run p.tables e below F T (fr m pc' L S)) : Run p.tables e below F T (fr m pc L (.null :: S)) := by
  subst hq
  obtain ⟨vm0, k0, locs, X, -⟩ := P
  exact Run.go (fun t z => XT.ifnonnullNo X.here C.1 rfl (hb C.2.2.2.1 hd) rfl z) r
theorem b_acmp (C : Ctx Z a0 EL p s m meth c own name bytes maxL ret) (P : Pos Z EL n0 p l e R s m args below meth c T h k n) {cd : ACond} {o : Int} {x y : Value} (h1 : x.isRef = true) (h2 : y.isRef = true) {same : Bool} (hd : decode bytes pc = .ok (.if_acmp cd o, 3)) (hq : decide (x = y) = same) (ho : 0 ≤ (pc : Int) + o) (hp : pc' = if acV cd same = true then ((pc : Int) + o).toNat else pc + 3)
    (r : Run p.tables e below F T (fr m pc' L S)) : Run p.tables e below F T (fr m pc L (y :: x :: S)) := by
  obtain ⟨vm0, k0, locs, X, -⟩ := P
  exact Run.go (fun t z => acmp X C.1 rfl h1 h2 (pc0 := pc) rfl (hb C.2.2.2.1 hd) rfl hq ho hp z) r
theorem s_irem (C : Ctx Z a0 EL p s m meth c own name bytes maxL ret) (P : Pos Z EL n0 p l e R s m args below meth c T h k n) {x y : Int32} (hd : decode bytes pc = .ok (.irem, 1)) (hy : y ≠ 0) (hq : pc + 1 = pc')
    (r : Run p.tables e below F T (fr m pc' L (.int (x % y) :: S))) : Run p.tables e below F T (fr m pc L (.int y :: .int x :: S)) := by
  subst hq
  obtain ⟨vm0, k0, locs, X, -⟩ := P
  exact Run.go (fun t z => iremM X C.1 rfl (hb C.2.2.2.1 hd) rfl hy z) r
theorem s_aloadN (C : Ctx Z a0 EL p s m meth c own name bytes maxL ret) (P : Pos Z EL n0 p l e R s m args below meth c T h k n) {i : Fin 4} {v : Value} (hd : decode bytes pc = .ok (.aload_n i, 1)) (hl : lget L i.val = some (.val v)) (hv : v.isRef = true) (hq : pc + 1 = pc')
    (r : Run p.tables e below F T (fr m pc' L (v :: S))) : Run p.tables e below F T (fr m pc L S) := by
  subst hq
  obtain ⟨vm0, k0, locs, X, -⟩ := P
  exact Run.go (fun t z => XS.aloadN X.here C.1 rfl (hb C.2.2.2.1 hd) ((lget_eq _ _).trans hl) hv z) r
theorem s_aload (C : Ctx Z a0 EL p s m meth c own name bytes maxL ret) (P : Pos Z EL n0 p l e R s m args below meth c T h k n) {i : Nat} {v : Value} (hd : decode bytes pc = .ok (.aload i, 2)) (hl : lget L i = some (.val v)) (hv : v.isRef = true) (hq : pc + 2 = pc')
    (r : Run p.tables e below F T (fr m pc' L (v :: S))) : Run p.tables e below F T (fr m pc L S) := by
  subst hq
  obtain ⟨vm0, k0, locs, X, -⟩ := P
  exact Run.go (fun t z => XS.aload X.here C.1 rfl (hb C.2.2.2.1 hd) ((lget_eq _ _).trans hl) hv z) r
theorem s_getf (C : Ctx Z a0 EL p s m meth c own name bytes maxL ret) (P : Pos Z EL n0 p l e R s m args below meth c T h k n) {idx : Nat} {O nm d : String} {a : Addr} {v : Value} (hd : decode bytes pc = .ok (.getfield idx, 3)) (w : (Jvm.Cond.fieldLink own idx O nm d).before a0 Z = true) (G : Fld Z h a O nm d v) (hq : pc + 3 = pc')
    (r : ∀ T', Pos Z EL n0 p l e R s m args below meth c T' h k n → Run p.tables e below F T' (fr m pc' L (v :: S))) : Run p.tables e below F T (fr m pc L (.ref a :: S)) := by
  subst hq
  obtain ⟨vm0, k0, locs, X, eT, hS, hk, hC, hF, hO, hZ, hown⟩ := P.opened C
  obtain ⟨T', X', e', st⟩ := getF X C.1 hZ hown (host := "") (Or.inl w) Via.refl eT G (g := fr m pc L (.ref a :: S)) rfl rfl (hb C.2.2.2.1 hd)
  exact Run.go st (r T' ⟨vm0, k0, locs, X', e', hS, hk, hC, hF, hO⟩)
theorem s_gets (C : Ctx Z a0 EL p s m meth c own name bytes maxL ret) (P : Pos Z EL n0 p l e R s m args below meth c T h k n) {idx : Nat} {O nm d : String} {v : Value} (hd : decode bytes pc = .ok (.getstatic idx, 3)) (w : (Jvm.Cond.fieldLink own idx O nm d).before a0 Z = true) (G : Sta Z Z.heap O nm d v) (hq : pc + 3 = pc')
    (r : ∀ T', Pos Z EL n0 p l e R s m args below meth c T' h k n → Run p.tables e below F T' (fr m pc' L (v :: S))) : Run p.tables e below F T (fr m pc L S) := by
  subst hq
  have G' := G.ext P.z
  obtain ⟨vm0, k0, locs, X, eT, hS, hk, hC, hF, hO, hZ, hown⟩ := P.opened C
  obtain ⟨T', X', e', st⟩ := getS X C.1 hZ hown (host := "") w Via.refl eT G' (g := fr m pc L S) rfl (hb C.2.2.2.1 hd)
  exact Run.go st (r T' ⟨vm0, k0, locs, X', e', hS, hk, hC, hF, hO⟩)
/-- a putfield of a constructor, on the object that it makes (no String) -/
theorem s_putf (C : Ctx Z a0 EL p s m meth c own name bytes maxL ret) (P : Pos Z EL n0 p l e R s m args below meth c T h k n) {idx kk : Nat} {nm d K : String} {a : Addr} {v old : Value} {ty : FieldType} (hd : decode bytes pc = .ok (.putfield idx, 3)) (w : (Jvm.Cond.fieldLink own idx own nm d).before a0 Z = true)
    (ge : n0 ≤ a) (G : Fld Z h a own nm d old) (E : Exa Z h a K) (wl : (Jvm.Cond.laysFinal K own nm d).before a0 Z = true) (hname : name = "<init>") (wi : (Jvm.Cond.instantiable K kk).before a0 Z = true) (hK : K ≠ sST ∧ K ≠ "[B") (hty : parseFieldDescriptor d = some ty) (hn : narrow ty v = v) (hf : fits ty v = true) (hq : pc + 3 = pc')
    (r : ∀ T' h', Pos Z EL n0 p l e R s m args below meth c T' h' k n → Wr h h' a (RoadKit.slotOf Z own nm d) v → Run p.tables e below F T' (fr m pc' L S)) : Run p.tables e below F T (fr m pc L (v :: .ref a :: S)) := by
  subst hq
  obtain ⟨vm0, k0, locs, X, eT, hS, hk, hC, hF, hO, hZ, hown⟩ := P.opened C
  obtain ⟨T', h', X', e', W, st⟩ := putF X C.1 hZ hown (host := "") (Or.inl w) Via.refl eT G E (Or.inr ⟨wl, rfl, by rw [C.2.2.2.2.2.2.1]; exact hname⟩) wi hty hn hf (g := fr m pc L (v :: .ref a :: S)) rfl rfl (hb C.2.2.2.1 hd)
  have hz : h'.size = h.size := W.size
  exact Run.go st (r T' h' ⟨vm0, k0, _, X', e', hS, by rw [hz]; exact hk, hC.trans (CHr.wr W (Safe.exa hZ.alike E hK.1 hK.2) hC.1), Fr.snoc X' hF ge, hO.wr W ge⟩ W)
/-- the same for a field that isn't final -/
theorem s_putv (C : Ctx Z a0 EL p s m meth c own name bytes maxL ret) (P : Pos Z EL n0 p l e R s m args below meth c T h k n) {idx kk : Nat} {O nm d K : String} {a : Addr} {v old : Value} {ty : FieldType} (hd : decode bytes pc = .ok (.putfield idx, 3)) (w : (Jvm.Cond.fieldLink own idx O nm d).before a0 Z = true)
    (ge : n0 ≤ a) (G : Fld Z h a O nm d old) (E : Exa Z h a K) (wl : (Jvm.Cond.lays K O nm d).before a0 Z = true) (wi : (Jvm.Cond.instantiable K kk).before a0 Z = true) (hK : K ≠ sST ∧ K ≠ "[B") (hty : parseFieldDescriptor d = some ty) (hn : narrow ty v = v) (hf : fits ty v = true) (hq : pc + 3 = pc')
    (r : ∀ T' h', Pos Z EL n0 p l e R s m args below meth c T' h' k n → Wr h h' a (RoadKit.slotOf Z O nm d) v → Run p.tables e below F T' (fr m pc' L S)) : Run p.tables e below F T (fr m pc L (v :: .ref a :: S)) := by
  subst hq
  obtain ⟨vm0, k0, locs, X, eT, hS, hk, hC, hF, hO, hZ, hown⟩ := P.opened C
  obtain ⟨T', h', X', e', W, st⟩ := putF X C.1 hZ hown (host := "") (Or.inl w) Via.refl eT G E (Or.inl wl) wi hty hn hf (g := fr m pc L (v :: .ref a :: S)) rfl rfl (hb C.2.2.2.1 hd)
  have hz : h'.size = h.size := W.size
  exact Run.go st (r T' h' ⟨vm0, k0, _, X', e', hS, by rw [hz]; exact hk, hC.trans (CHr.wr W (Safe.exa hZ.alike E hK.1 hK.2) hC.1), Fr.snoc X' hF ge, hO.wr W ge⟩ W)
theorem s_new (C : Ctx Z a0 EL p s m meth c own name bytes maxL ret) (P : Pos Z EL n0 p l e R s m args below meth c T h k n) {idx nf : Nat} {K : String} (hd : decode bytes pc = .ok (.new idx, 3)) (w : (Jvm.Cond.classLink own idx K).before a0 Z = true) (wi : (Jvm.Cond.instantiable K nf).before a0 Z = true) (wz : (Jvm.Cond.initialized K).before a0 Z = true)
    (hc : k + 1 ≤ R.cells) (hl : n + nf ≤ R.slots) (hq : pc + 3 = pc')
    (r : ∀ T' h', Pos Z EL n0 p l e R s m args below meth c T' h' (k + 1) (n + nf) → Ext h h' → Blk Z a0 n0 h' h.size K → Run p.tables e below F T' (fr m pc' L (.ref h.size :: S))) : Run p.tables e below F T (fr m pc L S) := by
  subst hq
  have ge := P.n0le
  obtain ⟨vm0, k0, locs, X, eT, hS, hk, hC, hF, hO, hZ, hown⟩ := P.opened C
  obtain ⟨T', h', X', e', E, A, D, -, st⟩ := newO X C.1 hZ hown w wi wz eT (g := fr m pc L S) rfl (hb C.2.2.2.1 hd) hc hl
  exact Run.go st (r T' h' ⟨vm0, k0, locs, X', e', hS, Nat.le_trans hk E.1, hC.trans (CHr.ext E hC.1), hF, hO.ext E⟩ E ⟨ge, A, D⟩)
theorem s_newC (C : Ctx Z a0 EL p s m meth c own name bytes maxL ret) (P : Pos Z EL n0 p l e R s m args below meth c T h k n) {z : Int32} (len : Nat) (hd : decode bytes pc = .ok (.newarray .char, 2)) (w : (Jvm.Cond.arrayClass .char).before a0 Z = true)
    (hz : z = Int32.ofNat len) (hlen : len ≤ 4000) (hc : k + 1 ≤ R.cells) (hl : n + len ≤ R.slots) (hq : pc + 2 = pc')
    (r : ∀ T' h', Pos Z EL n0 p l e R s m args below meth c T' h' (k + 1) (n + len) → Ext h h' → Chs Z n0 h' h.size (List.replicate len 0) → Run p.tables e below F T' (fr m pc' L (.ref h.size :: S))) : Run p.tables e below F T (fr m pc L (.int z :: S)) := by
  subst hq
  have ge := P.n0le
  have e1 : z.toInt = len := by rw [hz]; exact len_toInt (by omega)
  have hnn : ¬ z < 0 := by rw [Int32.lt_iff_toInt_lt, e1]; show ¬ (len : Int) < 0; omega
  have hcl : z.toNatClampNeg = len := by simp only [Int32.toNatClampNeg, e1]; rfl
  obtain ⟨vm0, k0, locs, X, eT, hS, hk, hC, hF, hO, hZ, hown⟩ := P.opened C
  obtain ⟨T', h', cA, X', e', E, A, st⟩ := newP X C.1 hZ (aty := .char) w eT (n := z) (rest := S) (g := fr m pc L (.int z :: S)) rfl (hb C.2.2.2.1 hd) rfl hnn (cap := len) (Nat.le_of_eq hcl) (by omega) hc hl
  have V0 : Arv Z h' h.size cA .char z [] (.int 0) := Arv.new A hnn
  have V : Arv Z h' h.size cA .char z ((List.replicate len (0 : Int32)).map Value.int) (.int 0) := V0.pad (fun i => by
    rw [List.map_replicate]; exact pad_rep [] (Value.int 0) len i)
  have V' : Arv Z h' h.size cA .char (Int32.ofNat (List.replicate len (0 : Int32)).length) ((List.replicate len (0 : Int32)).map Value.int) (.int 0) := by rw [List.length_replicate, ← hz]; exact V
  exact Run.go st (r T' h' ⟨vm0, k0, locs, X', e', hS, Nat.le_trans hk E.1, hC.trans (CHr.ext E hC.1), hF, hO.ext E⟩ E ⟨ge, by rw [List.length_replicate]; exact hlen, cA, V'⟩)
theorem s_stC (C : Ctx Z a0 EL p s m meth c own name bytes maxL ret) (P : Pos Z EL n0 p l e R s m args below meth c T h k n) {j x : Int32} {b : Addr} {vs : List Int32} (i : Nat) (hd : decode bytes pc = .ok (.castore, 1)) (B : Chs Z n0 h b vs) (hj : j = Int32.ofNat i) (hi : i < vs.length) (hx : c16 x = x) (hq : pc + 1 = pc')
    (r : ∀ T' h', Pos Z EL n0 p l e R s m args below meth c T' h' k n → Keep h h' [b] → Chs Z n0 h' b (vs.set i x) → Run p.tables e below F T' (fr m pc' L S)) : Run p.tables e below F T (fr m pc L (.int x :: .int j :: .ref b :: S)) := by
  subst hq hj
  obtain ⟨ge, hlen, kb, cl, A, q1, q2, q3, H, G⟩ := B
  have e1 : (Int32.ofNat i).toInt = i := len_toInt (by omega)
  have e2 : (Int32.ofNat vs.length).toInt = vs.length := len_toInt (by omega)
  have hin : ¬ ((Int32.ofNat i) < 0 ∨ cl.slots.size ≤ (Int32.ofNat i).toNatClampNeg) := inb_of q2 ⟨by rw [Int32.lt_iff_toInt_lt, e1]; show ¬ (i : Int) < 0; omega, by rw [Int32.lt_iff_toInt_lt, e1, e2]; omega⟩
  obtain ⟨vm0, k0, locs, X, eT, hS, hk, hC, hF, hO, hZ, hown⟩ := P.opened C
  obtain ⟨T', h', X', e', W, st⟩ := stC X C.1 hZ eT A (j := Int32.ofNat i) (x := x) hin (g := fr m pc L (.int x :: .int (Int32.ofNat i) :: .ref b :: S)) rfl rfl (hb C.2.2.2.1 hd)
  have hnar : nar .char x = x := hx
  have hci : (Int32.ofNat i).toNatClampNeg = i := by simp only [Int32.toNatClampNeg, e1]; rfl
  have V := Arv.set A q1 q2 q3 H G (fits_nar_char x) W i hci (by simpa using hi)
  have hz : h'.size = h.size := W.size
  rw [hnar, ← List.map_set] at V
  exact Run.go st (r T' h' ⟨vm0, k0, _, X', e', hS, by rw [hz]; exact hk, hC.trans (CHr.wr W (Safe.arr hZ.alike A (by decide)) hC.1), Fr.snoc X' hF ge, hO.wr W ge⟩ (Keep.of_wr W) ⟨ge, by simpa using hlen, kb, by simpa using V⟩)
theorem s_initO (C : Ctx Z a0 EL p s m meth c own name bytes maxL ret) (P : Pos Z EL n0 p l e R s m args below meth c T h k n) {idx : Nat} {a : Addr} {W : Nat} (hd : decode bytes pc = .ok (.invokespecial idx, 3)) (w1 : (Jvm.Cond.methodLink own idx Lib.objectInit).before a0 Z = true) (w2 : (Jvm.Cond.instanceMethod Lib.objectInit).before a0 Z = true)
    (w3 : (Jvm.Cond.code Lib.objectInit ⟨#[0xb1]⟩ 1 none).before a0 Z = true) (hL : L.length = maxL) (hf : 1 ≤ R.frames) (hW : (S.map fun v => v.category).sum ≤ W) (hl : W + 12 ≤ R.locals) (hq : pc + 3 = pc')
    (r : ∀ T', Pos Z EL n0 p l e R s m args below meth c T' h k n → Run p.tables e below F T' (fr m pc' L S)) : Run p.tables e below F T (fr m pc L (.ref a :: S)) := by
  subst hq
  obtain ⟨vm0, k0, locs, X, eT, hS, hk, hC, hF, hO, hZ, hown⟩ := P.opened C
  obtain ⟨T', X', e', st⟩ := initO X C.1 hZ hown w1 w2 w3 eT (g := fr m pc L (.ref a :: S)) rfl (by rw [C.2.2.2.2.1]; exact hL) rfl (hb C.2.2.2.1 hd) hf (W := W) (by show 2 * 0 + _ ≤ _; omega) hl
  exact Run.go st (r T' ⟨vm0, k0, locs, X', e', hS, hk, hC, hF, hO⟩)
theorem s_castY (C : Ctx Z a0 EL p s m meth c own name bytes maxL ret) (P : Pos Z EL n0 p l e R s m args below meth c T h k n) {idx : Nat} {K : String} {a : Addr} (hd : decode bytes pc = .ok (.checkcast idx, 3)) (w : (Jvm.Cond.classLink own idx K).before a0 Z = true) (I : Ins Z h a K true) (hq : pc + 3 = pc')
    (r : ∀ T', Pos Z EL n0 p l e R s m args below meth c T' h k n → Run p.tables e below F T' (fr m pc' L (.ref a :: S))) : Run p.tables e below F T (fr m pc L (.ref a :: S)) := by
  subst hq
  obtain ⟨vm0, k0, locs, X, eT, hS, hk, hC, hF, hO, hZ, hown⟩ := P.opened C
  obtain ⟨T', X', e', st⟩ := castY X C.1 hZ hown w eT I (g := fr m pc L (.ref a :: S)) rfl rfl (hb C.2.2.2.1 hd)
  exact Run.go st (r T' ⟨vm0, k0, locs, X', e', hS, hk, hC, hF, hO⟩)
theorem s_instY (C : Ctx Z a0 EL p s m meth c own name bytes maxL ret) (P : Pos Z EL n0 p l e R s m args below meth c T h k n) {idx : Nat} {K : String} {a : Addr} (hd : decode bytes pc = .ok (.instanceof idx, 3)) (w : (Jvm.Cond.classLink own idx K).before a0 Z = true) (I : Ins Z h a K true) (hq : pc + 3 = pc')
    (r : ∀ T', Pos Z EL n0 p l e R s m args below meth c T' h k n → Run p.tables e below F T' (fr m pc' L (.int 1 :: S))) : Run p.tables e below F T (fr m pc L (.ref a :: S)) := by
  subst hq
  obtain ⟨vm0, k0, locs, X, eT, hS, hk, hC, hF, hO, hZ, hown⟩ := P.opened C
  obtain ⟨T', X', e', st⟩ := instY X C.1 hZ hown w eT I (g := fr m pc L (.ref a :: S)) rfl rfl (hb C.2.2.2.1 hd)
  exact Run.go st (r T' ⟨vm0, k0, locs, X', e', hS, hk, hC, hF, hO⟩)
theorem s_instN (C : Ctx Z a0 EL p s m meth c own name bytes maxL ret) (P : Pos Z EL n0 p l e R s m args below meth c T h k n) {idx : Nat} {K K' : String} {a : Addr} (hd : decode bytes pc = .ok (.instanceof idx, 3)) (w : (Jvm.Cond.classLink own idx K).before a0 Z = true) (I : Ins Z s.heap a K false) (E : Exa Z s.heap a K') (hq : pc + 3 = pc')
    (r : ∀ T', Pos Z EL n0 p l e R s m args below meth c T' h k n → Run p.tables e below F T' (fr m pc' L (.int 0 :: S))) : Run p.tables e below F T (fr m pc L (.ref a :: S)) := by
  subst hq
  obtain ⟨vm0, k0, locs, X, eT, hS, hk, hC, hF, hO, hZ, hown⟩ := P.opened C
  obtain ⟨T', X', e', st⟩ := instN X C.1 hZ hown w eT I E (g := fr m pc L (.ref a :: S)) rfl rfl (hb C.2.2.2.1 hd)
  exact Run.go st (r T' ⟨vm0, k0, locs, X', e', hS, hk, hC, hF, hO⟩)
theorem s_inst0 (C : Ctx Z a0 EL p s m meth c own name bytes maxL ret) (P : Pos Z EL n0 p l e R s m args below meth c T h k n) {idx : Nat} (hd : decode bytes pc = .ok (.instanceof idx, 3)) (hq : pc + 3 = pc')
    (r : Run p.tables e below F T (fr m pc' L (.int 0 :: S))) : Run p.tables e below F T (fr m pc L (.null :: S)) := by
  subst hq
  obtain ⟨vm0, k0, locs, X, -⟩ := P
  exact Run.go (X.instanceofNull C.1 rfl rfl (hb C.2.2.2.1 hd)) r
/-- ldc of a constant of EL, read -/
theorem s_ldc (C : Ctx Z a0 EL p s m meth c own name bytes maxL ret) (P : Pos Z EL n0 p l e R s m args below meth c T h k n) {idx len : Nat} {text : String} (cs : List Int32) (hd : decode bytes pc = .ok (.ldc idx, 2)) (w : (Jvm.Cond.stringLink own idx text).before a0 Z = true) (wS : ∀ a ∈ Bundle.stringAtoms, a.before a0 Z = true) (hmem : (own, idx) ∈ EL)
    (ht : (∀ c ∈ text.toList, c.toNat < 256) ∧ text.toList.map (fun c => Value.int (Jvm.Lit.byteI c.toNat.toUInt16)) = (cs.map fun c => c.toInt8.toInt32).map Value.int) (hlen : cs.length ≤ 4000) (hcs : ∀ c ∈ cs, ¬ c < 0 ∧ ¬ (255 : Int32) < c) (hn : 4 * text.toList.length ≤ len) (hbig : len ≤ 536870912) (hc : k + 2 ≤ R.cells) (hl : n + (len + 4) ≤ R.slots) (hq : pc + 2 = pc')
    (r : ∀ T' h' a, Pos Z EL n0 p l e R s m args below meth c T' h' (k + 2) (n + (len + 4)) → Ext h h' → Str Z h' a cs → Run p.tables e below F T' (fr m pc' L (.ref a :: S))) : Run p.tables e below F T (fr m pc L S) := by
  subst hq
  have e1 : (Int32.ofNat cs.length).toInt = cs.length := len_toInt (by omega)
  obtain ⟨vm0, k0, locs, X, eT, hS, hk, hC, hF, hO, hZ, hown⟩ := P.opened C
  obtain ⟨a, T', h', k1, b, kb, X', e', E, hS', hk', hZ', hown', r1, r2, r3, r4, r5, r6, hC', hLit, hne, st⟩ := ldcCH X C.1 hZ hown w wS eT hS hk C.2.2.2.2.2.2.2.2 hmem hC.1 (z := Int32.ofNat cs.length) ht (by rw [Int32.lt_iff_toInt_lt, e1]; show ¬ (cs.length : Int) < 0; omega) (by simp only [Int32.toNatClampNeg, e1, List.length_map]; rfl) (g := fr m pc L S) rfl (hb C.2.2.2.1 hd) hn hbig hc hl
  exact Run.go st (r T' h' a ⟨T'.vm, k1, locs, X', e', hS', hk', hC.trans hC', hF, hO.ext E⟩ E ⟨hlen, hcs, r1, r2, b, kb, r3, r4⟩)
/-- what the caller has behind a call of a callee that may intern -/
theorem Pos.back {vm0 : Vm} {k0 : Nat} {locs Lc : List Loc} {U : State} {k' n' : Nat} (hS : s.Since vm0 k0) (hk : k0 ≤ h.size) (eT : T.heap = h) (hC : CHr Z EL s.vm s.heap vm0 h) (hF : Fr n0 locs)
    (X : Stand p l e R ((s.setVm vm0).setVm U.vm) m args below meth c U (locs ++ Lc) k' n') (h2 : (s.setVm vm0).Since U.vm U.heap.size) (g : T.heap.size ≤ U.heap.size) (hL : Fr n0 Lc) (hO : Old Z n0 U.heap) (hR : CHr Z EL vm0 h U.vm U.heap) :
    Pos Z EL n0 p l e R s m args below meth c U U.heap k' n' :=
  ⟨U.vm, U.heap.size, locs ++ Lc, X, rfl, hS.trans h2 (Nat.le_trans hk (eT ▸ g)), Nat.le_refl _, hC.trans hR, hF.app hL, hO⟩
section Calls
variable {y : MethodName} {ybytes : ByteArray} {ymax : Nat} {yret : Option FieldType} {yrm : Room} {argsL rest : List Value} {ps : List FieldType} {rt : Option FieldType} {W idx : Nat}
theorem c_static (C : Ctx Z a0 EL p s m meth c own name bytes maxL ret) (P : Pos Z EL n0 p l e R s m args below meth c T h k n) {Q1 : Value → Heap → Prop} (hd : decode bytes pc = .ok (.invokestatic idx, 3)) (w1 : (Jvm.Cond.methodLink own idx y).before a0 Z = true) (w2 : (Jvm.Cond.static y).before a0 Z = true) (w3 : (Jvm.Cond.initialized y.cls).before a0 Z = true) (w4 : (Jvm.Cond.code y ybytes ymax yret).before a0 Z = true)
    (hy : y.cls ≠ "java/lang/invoke/MethodHandle" ∧ y.cls ≠ "java/lang/invoke/VarHandle") (argsL rest : List Value) (K : Con l Z EL n0 [] y ybytes ymax yret yrm argsL.toArray h (Ret1 Q1)) (hfr : yrm.frames + 1 ≤ R.frames) (hlo : W + (ymax + 11) + yrm.locals ≤ R.locals) (pd : parseMethodDescriptor y.desc = some ⟨ps, rt⟩) (hps : argsL.length = ps.length) (hS : S = argsL.reverse ++ rest)
    (hL : L.length = maxL) (hW : (rest.map fun v => v.category).sum ≤ W) (hc : k + yrm.cells ≤ R.cells) (hl : n + yrm.slots ≤ R.slots) (hq : pc + 3 = pc')
    (r : ∀ T' h' v, Pos Z EL n0 p l e R s m args below meth c T' h' (k + yrm.cells) (n + yrm.slots) → Q1 v h' → Run p.tables e below F T' (fr m pc' L (v :: rest))) : Run p.tables e below F T (fr m pc L S) := by
  subst hq hS
  obtain ⟨vm0, k0, locs, X, eT, hS, hk, hC, hF, hO, hZ, hown⟩ := P.opened C
  obtain ⟨v, vm₁, ⟨U, Ls, kk, nn⟩, -, X', h2, hgr, ⟨Lc, ⟨⟨w, rfl, hQ⟩, hFL, hOU⟩, l1, l2, l3, hR⟩, st⟩ := callSS X C.1 (y := y) hown (mvT hZ w1) (mvT hZ w2) (mvT hZ w3) (mvT hZ w4) hy (backOfSH (W := W) (Q := fun v h' L => Ret1 Q1 v h' ∧ Fr n0 L ∧ Old Z n0 h') K hZ w4 w3 hfr hlo C.2.2.2.2.2.2.2.2 hC.1) (g := fr m pc L (argsL.reverse ++ rest)) rfl (by rw [C.2.2.2.2.1]; exact hL) (argsL := argsL) (rest := rest) (lenOf pd hps) rfl (by show 2 * 0 + _ ≤ _; omega) (hb C.2.2.2.1 hd) (fun _ _ => ⟨rfl, eT, hc, hl⟩)
  dsimp only [Pt.U, Pt.locs, Pt.cells, Pt.slots] at X' h2 hgr l1 l2 l3 hR hQ hOU st
  subst l1 l2 l3
  exact Run.after st (r U U.heap w (Pos.back hS hk eT hC hF X' h2 hgr hFL hOU hR) hQ)
theorem c_special (C : Ctx Z a0 EL p s m meth c own name bytes maxL ret) (P : Pos Z EL n0 p l e R s m args below meth c T h k n) {Q0 : Heap → Prop} {a : Addr} (hname : y.name = "<init>") (hd : decode bytes pc = .ok (.invokespecial idx, 3)) (w1 : (Jvm.Cond.methodLink own idx y).before a0 Z = true) (w2 : (Jvm.Cond.instanceMethod y).before a0 Z = true) (w3 : (Jvm.Cond.initialized y.cls).before a0 Z = true) (w4 : (Jvm.Cond.code y ybytes ymax none).before a0 Z = true)
    (hy : y.cls ≠ "java/lang/invoke/MethodHandle" ∧ y.cls ≠ "java/lang/invoke/VarHandle") (argsL rest : List Value) (K : Con l Z EL n0 [] y ybytes ymax none yrm (.ref a :: argsL).toArray h (Ret0 Q0)) (hfr : yrm.frames + 1 ≤ R.frames) (hlo : W + (ymax + 11) + yrm.locals ≤ R.locals) (pd : parseMethodDescriptor y.desc = some ⟨ps, rt⟩) (hps : argsL.length = ps.length) (hS : S = argsL.reverse ++ .ref a :: rest)
    (hL : L.length = maxL) (hW : (rest.map fun v => v.category).sum ≤ W) (hc : k + yrm.cells ≤ R.cells) (hl : n + yrm.slots ≤ R.slots) (hq : pc + 3 = pc')
    (r : ∀ T' h', Pos Z EL n0 p l e R s m args below meth c T' h' (k + yrm.cells) (n + yrm.slots) → Q0 h' → Run p.tables e below F T' (fr m pc' L rest)) : Run p.tables e below F T (fr m pc L S) := by
  subst hq hS
  obtain ⟨vm0, k0, locs, X, eT, hS, hk, hC, hF, hO, hZ, hown⟩ := P.opened C
  obtain ⟨v, vm₁, ⟨U, Ls, kk, nn⟩, -, X', h2, hgr, ⟨Lc, ⟨⟨rfl, hQ⟩, hFL, hOU⟩, l1, l2, l3, hR⟩, st⟩ := X.specialBackS C.1 (y := y) hname hown (mvT hZ w1) (mvT hZ w2) (mvT hZ w4) hy (backOfSH (W := W) (Q := fun v h' L => Ret0 Q0 v h' ∧ Fr n0 L ∧ Old Z n0 h') K hZ w4 w3 hfr hlo C.2.2.2.2.2.2.2.2 hC.1) (g := fr m pc L (argsL.reverse ++ .ref a :: rest)) rfl (by rw [C.2.2.2.2.1]; exact hL) (Steps.refl _) (a := a) (argsL := argsL) (rest := rest) (lenOf pd hps) rfl (by show 2 * 0 + _ ≤ _; omega) (hb C.2.2.2.1 hd) (fun _ _ => ⟨rfl, eT, hc, hl⟩)
  dsimp only [Pt.U, Pt.locs, Pt.cells, Pt.slots] at X' h2 hgr l1 l2 l3 hR hQ hOU st
  subst l1 l2 l3
  exact Run.after st (r U U.heap (Pos.back hS hk eT hC hF X' h2 hgr hFL hOU hR) hQ)
theorem c_virtual (C : Ctx Z a0 EL p s m meth c own name bytes maxL ret) (P : Pos Z EL n0 p l e R s m args below meth c T h k n) {Q1 : Value → Heap → Prop} {a : Addr} {K0 : String} (hd : decode bytes pc = .ok (.invokevirtual idx, 3)) (w1 : (Jvm.Cond.methodLink own idx y).before a0 Z = true) (w2 : (Jvm.Cond.declares y).before a0 Z = true) (ws : (Jvm.Cond.selects K0 y y).before a0 Z = true) (wm : (Jvm.Cond.instanceMethod y).before a0 Z = true) (w3 : (Jvm.Cond.initialized y.cls).before a0 Z = true) (w4 : (Jvm.Cond.code y ybytes ymax yret).before a0 Z = true)
    (hy : y.cls ≠ "java/lang/invoke/MethodHandle" ∧ y.cls ≠ "java/lang/invoke/VarHandle") (E : Exa Z h a K0) (argsL rest : List Value) (K : Con l Z EL n0 [] y ybytes ymax yret yrm (.ref a :: argsL).toArray h (Ret1 Q1)) (hfr : yrm.frames + 1 ≤ R.frames) (hlo : W + (ymax + 11) + yrm.locals ≤ R.locals) (pd : parseMethodDescriptor y.desc = some ⟨ps, rt⟩) (hps : argsL.length = ps.length) (hS : S = argsL.reverse ++ .ref a :: rest)
    (hL : L.length = maxL) (hW : (rest.map fun v => v.category).sum ≤ W) (hc : k + yrm.cells ≤ R.cells) (hl : n + yrm.slots ≤ R.slots) (hq : pc + 3 = pc')
    (r : ∀ T' h' v, Pos Z EL n0 p l e R s m args below meth c T' h' (k + yrm.cells) (n + yrm.slots) → Q1 v h' → Run p.tables e below F T' (fr m pc' L (v :: rest))) : Run p.tables e below F T (fr m pc L S) := by
  subst hq hS
  obtain ⟨vm0, k0, locs, X, eT, hS, hk, hC, hF, hO, hZ, hown⟩ := P.opened C
  obtain ⟨cq, kq, qa, -, qc⟩ := isOf hZ eT E
  obtain ⟨v, vm₁, ⟨U, Ls, kk, nn⟩, -, X', h2, hgr, ⟨Lc, ⟨⟨w, rfl, hQ⟩, hFL, hOU⟩, l1, l2, l3, hR⟩, st⟩ := X.virtualBackS C.1 (y := y) (z := y) hown (mvT hZ w1) (mvT hZ w2) (notFace_of_selects (args := #[]) (mvT hZ ws)) (mvT hZ ws) (mvT hZ wm) hy (backOfSH (W := W) (Q := fun v h' L => Ret1 Q1 v h' ∧ Fr n0 L ∧ Old Z n0 h') K hZ w4 w3 hfr hlo C.2.2.2.2.2.2.2.2 hC.1) qa qc (g := fr m pc L (argsL.reverse ++ .ref a :: rest)) rfl (by rw [C.2.2.2.2.1]; exact hL) (Steps.refl _) (argsL := argsL) (rest := rest) (lenOf pd hps) rfl (by show 2 * 0 + _ ≤ _; omega) (hb C.2.2.2.1 hd) (fun _ _ => ⟨rfl, eT, hc, hl⟩)
  dsimp only [Pt.U, Pt.locs, Pt.cells, Pt.slots] at X' h2 hgr l1 l2 l3 hR hQ hOU st
  subst l1 l2 l3
  exact Run.after st (r U U.heap w (Pos.back hS hk eT hC hF X' h2 hgr hFL hOU hR) hQ)
end Calls
/-! ### the end -/
theorem r_any (C : Ctx Z a0 EL p s m meth c own name bytes maxL ret) (P : Pos Z EL n0 p l e R s m args below meth c T h k n) {v : Option Value} {g : JFrame} (hv : ret = none → v = none) (hk : k ≤ R.cells) (hn : n ≤ R.slots) (q : Q v h)
    (st : ∀ {vm0 : Vm} {locs : List Loc} {fs : List Frame}, Stand p l e R (s.setVm vm0) m args below meth c T locs k n → (∀ (f : JFrame) (acts : List Action), f.method = m → f.locked = none → f.entered = [] → (doReturn e (T.setTop f) acts v).1 = T.setFrames fs) → Steps p.tables e below (T.setTop g) (T.setFrames fs)) :
    Run p.tables e below (Ends Z EL n0 R below Q s) T g := by
  have hlock : meth.locks = false := C.2.2.2.2.2.2.2.1
  obtain ⟨vm0, k0, locs, X, eT, hS, hk0, hC, hF, hO, hZ, hown⟩ := P.opened C
  obtain ⟨fs, hr, hrun, hended, b1, b2, b3, b4⟩ := X.leaveW (v := v) hS (by rw [eT]; exact hk0) (fun z => hv (by rw [← C.2.2.2.2.2.1]; exact z))
  refine ⟨T.setFrames fs, .returned v, st X hr, hrun, hended, v, locs, rfl, ⟨?_, hF, ?_⟩, ?_, b1, b2, b3, b4.mono hk hn⟩
  · show Q v T.heap; rw [eT]; exact q
  · show Old Z n0 T.heap; rw [eT]; exact hO
  · show CHr Z EL s.vm s.heap T.vm T.heap
    rw [eT]; exact hC.trans (CHv.at X hZ C.2.2.2.2.2.2.2.2 hC.1)
theorem r_void (C : Ctx Z a0 EL p s m meth c own name bytes maxL none) (P : Pos Z EL n0 p l e R s m args below meth c T h k n) (hd : decode bytes pc = .ok (.return_, 1)) (hk : k ≤ R.cells) (hn : n ≤ R.slots) (q : Q none h) :
    Run p.tables e below (Ends Z EL n0 R below Q s) T (fr m pc L []) :=
  r_any C P (fun _ => rfl) hk hn q fun X hr => X.returnOut C.1 C.2.2.2.2.2.1 (hb C.2.2.2.1 hd) hr
theorem r_int (C : Ctx Z a0 EL p s m meth c own name bytes maxL (some ty)) (P : Pos Z EL n0 p l e R s m args below meth c T h k n) {w : Int32} (hti : ty = .int ∨ ty = .boolean ∨ ty = .byte ∨ ty = .char ∨ ty = .short) (hnar : narrow ty (.int w) = .int w) (hd : decode bytes pc = .ok (.ireturn, 1)) (hk : k ≤ R.cells) (hn : n ≤ R.slots) (q : Q (some (.int w)) h) :
    Run p.tables e below (Ends Z EL n0 R below Q s) T (fr m pc L [.int w]) :=
  r_any C P (fun z => by cases z) hk hn q fun X hr => X.ireturnOut C.1 C.2.2.2.2.2.1 hnar hti (hb C.2.2.2.1 hd) hr
theorem r_ref (C : Ctx Z a0 EL p s m meth c own name bytes maxL (some ty)) (P : Pos Z EL n0 p l e R s m args below meth c T h k n) {w : Value} (hw : w.isRef = true) (ht : ty.isReference = true) (hd : decode bytes pc = .ok (.areturn, 1)) (hk : k ≤ R.cells) (hn : n ≤ R.slots) (q : Q (some w) h) :
    Run p.tables e below (Ends Z EL n0 R below Q s) T (fr m pc L [w]) :=
  r_any C P (fun z => by cases z) hk hn q fun X hr => X.areturnOut C.1 hw C.2.2.2.2.2.1 ht (hb C.2.2.2.1 hd) hr
end Walk
end Jvm.Own
namespace Jvm.Own
open Jvm Sem ClassFile Op Lib Jvm.Free Jvm.Stand Jvm.LawKit Jvm.RoadKit Bundle
section Walk2
variable {Z : State} {a0 : Array Value} {EL : List (String × Nat)} {n0 : Nat} {p : Program} {l : Launch} {e : Env} {R : Room} {s : State} {m : MethodId} {args : Array Value} {below : List Frame} {meth : Method} {c : Code} {own name : String} {bytes : ByteArray} {maxL : Nat} {ret : Option FieldType}
  {F : State → Outcome → Prop} {T : State} {h : Heap} {k n : Nat} {pc pc' : Nat} {L L' : List Slot} {S S' : List Value} {Q : Option Value → Heap → Prop}
theorem s_alen (C : Ctx Z a0 EL p s m meth c own name bytes maxL ret) (P : Pos Z EL n0 p l e R s m args below meth c T h k n) {b : Addr} {kb : ClassId} {ty : FieldType} {z : Int32} {vs : List Value} {d : Value} (hd : decode bytes pc = .ok (.arraylength, 1)) (A : Arv Z h b kb ty z vs d) (hq : pc + 1 = pc')
    (r : Run p.tables e below F T (fr m pc' L (.int z :: S))) : Run p.tables e below F T (fr m pc L (.ref b :: S)) := by
  subst hq
  obtain ⟨vm0, k0, locs, X, eT, hS, hk, hC, hF, hO, hZ, hown⟩ := P.opened C
  obtain ⟨cl, A1, -, q2, q3, -⟩ := A
  have e1 := len_of q2 q3
  refine Run.go (fun t q => X.arraylength C.1 (by rw [eT]; exact A1.1) (State.isArrayOf_alike hZ.alike A1.2.1) (g := fr m pc L (.ref b :: S)) rfl rfl (hb C.2.2.2.1 hd) t (by rw [e1]; exact q)) r
end Walk2
theorem fit_ref {v : Value} (hv : v.isRef = true) (t : String) : narrow (.object t) v = v ∧ fits (.object t) v = true := by
  rcases ref_cases hv with rfl | ⟨a, rfl⟩ <;> exact ⟨rfl, rfl⟩
theorem c16_idem (x : Int32) : c16 (c16 x) = c16 x := by
  show (x.toUInt32.toUInt16.toUInt32).toUInt16.toUInt32.toInt32 = _
  rw [UInt16.toUInt16_toUInt32]
theorem c16_nar (x : Int32) : narrow .char (.int (c16 x)) = .int (c16 x) := by
  show Value.int (c16 (c16 x)) = _
  rw [c16_idem]
end Jvm.Own
namespace Jvm.Own
open Jvm Sem ClassFile Op Lib Jvm.Free Jvm.Stand Jvm.LawKit Jvm.RoadKit Bundle
theorem up8 (cs : List Int32) (h : ∀ c ∈ cs, ¬ c < 0 ∧ ¬ (255 : Int32) < c) : ∀ c ∈ cs, ¬ c < 0 ∧ ¬ (65535 : Int32) < c := fun c hc => ⟨(h c hc).1, fun q => (h c hc).2 (by
  rw [Int32.lt_iff_toInt_lt] at q ⊢
  have e1 : (65535 : Int32).toInt = 65535 := rfl
  have e2 : (255 : Int32).toInt = 255 := rfl
  omega)⟩
/-- the low byte as a char: 0 to 255 -/
theorem lat (x : Int32) : ¬ c16 (x &&& (255 : Int32)) < 0 ∧ ¬ (255 : Int32) < c16 (x &&& (255 : Int32)) := by
  have t : ∀ k : Fin 256, ¬ c16 (Int32.ofNat k.val) < 0 ∧ ¬ (255 : Int32) < c16 (Int32.ofNat k.val) := by decide +kernel
  have h : (x &&& 255).toBitVec.toNat < 256 := by
    simp only [Int32.toBitVec_and, BitVec.toNat_and]
    exact Nat.lt_succ_of_le Nat.and_le_right
  have e : (x &&& 255) = Int32.ofNat (x &&& 255).toBitVec.toNat := by
    apply Int32.toBitVec_inj.mp
    show _ = BitVec.ofNat 32 _
    rw [BitVec.ofNat_toNat]; simp
  rw [e]
  exact t ⟨_, h⟩
theorem lat0 : ∀ c ∈ ([] : List Int32), ¬ c < 0 ∧ ¬ (255 : Int32) < c := fun _ h => by cases h
theorem latS {a : Int32} {r : List Int32} (h : ¬ a < 0 ∧ ¬ (255 : Int32) < a) (hr : ∀ c ∈ r, ¬ c < 0 ∧ ¬ (255 : Int32) < c) : ∀ c ∈ a :: r, ¬ c < 0 ∧ ¬ (255 : Int32) < c := fun c hc => (List.mem_cons.mp hc).elim (fun e => e ▸ h) (hr c)
theorem latv {x : Int32} : ¬ c16 (x &&& (255 : Int32)) < 0 ∧ ¬ (255 : Int32) < c16 (x &&& (255 : Int32)) := lat x
theorem le_ (a b : Nat) (h : Nat.ble a b = true) : a ≤ b := Nat.le_of_ble_eq_true h
end Jvm.Own
namespace Jvm.Own
open Jvm Sem ClassFile Op Lib Jvm.Free Jvm.Stand Jvm.LawKit Jvm.RoadKit Bundle
theorem ord_fld {s : State} {args : Array Value} {t : Term} {k : Addr} {C n d : String} {v : Int32} (ek : t.eval args s none [] s = some (.ref k)) (h : (Jvm.Cond.eq (.field t C n d) (.int v)).value args s none s [] = some true) : Fld s s.heap k C n d (.int v) := by
  have q := Cond.eq_int (Cond.before_iff.mpr h) rfl
  exact Fld.start (by simpa [Term.eval, ek] using q)
section Walk3
variable {Z : State} {a0 : Array Value} {EL : List (String × Nat)} {n0 : Nat} {p : Program} {l : Launch} {e : Env} {R : Room} {s : State} {m : MethodId} {args : Array Value} {below : List Frame} {meth : Method} {c : Code} {own name : String} {bytes : ByteArray} {maxL : Nat} {ret : Option FieldType}
  {F : State → Outcome → Prop} {T : State} {h : Heap} {k n : Nat} {pc pc' : Nat} {L L' : List Slot} {S S' : List Value} {Q : Option Value → Heap → Prop}
theorem s_instNo (C : Ctx Z a0 EL p s m meth c own name bytes maxL ret) (P : Pos Z EL n0 p l e R s m args below meth c T h k n) {idx : Nat} {K K' : String} {a : Addr} (hd : decode bytes pc = .ok (.instanceof idx, 3)) (w : (Jvm.Cond.classLink own idx K).before a0 Z = true) (E : Exa Z h a K') (I : ∃ c t, Z.vm.findClass K' = some c ∧ Z.vm.findClass K = some t ∧ Z.vm.assignable c t = false) (hq : pc + 3 = pc')
    (r : ∀ T', Pos Z EL n0 p l e R s m args below meth c T' h k n → Run p.tables e below F T' (fr m pc' L (.int 0 :: S))) : Run p.tables e below F T (fr m pc L (.ref a :: S)) := by
  subst hq
  obtain ⟨vm0, k0, locs, X, eT, hS, hk, hC, hF, hO, hZ, hown⟩ := P.opened C
  obtain ⟨T', X', e', st⟩ := instNo X C.1 hZ hown w eT E I (g := fr m pc L (.ref a :: S)) rfl rfl (hb C.2.2.2.1 hd)
  exact Run.go st (r T' ⟨vm0, k0, locs, X', e', hS, hk, hC, hF, hO⟩)
/-- a String is no object of another class that can be made -/
theorem noIns {K : String} {nf : Nat} (w : (Jvm.Cond.superclass sST "java/lang/Object").before a0 Z = true) (wo : (Jvm.Cond.noSuperclass "java/lang/Object").before a0 Z = true) (wi : (Jvm.Cond.instantiable K nf).before a0 Z = true) (h1 : sST ≠ K) (h2 : "java/lang/Object" ≠ K) : ∃ c t, Z.vm.findClass sST = some c ∧ Z.vm.findClass K = some t ∧ Z.vm.assignable c t = false := by
  obtain ⟨co, ko, o1, o2, o3, -, -⟩ := Cond.noSuperclass_spec wo
  obtain ⟨c, c1⟩ := found_sup w
  obtain ⟨p, k, kp, p1, p2, p3, p4, p5, -, -⟩ := Cond.superclass_spec c1 w
  obtain ⟨t, kt, i1, i2, i3, i4⟩ := Cond.instantiable_spec wi
  cases p1.symm.trans o1
  have n1 := ids_ne c1 i1 h1
  have n2 := ids_ne o1 i1 h2
  refine ⟨c, t, c1, i1, ?_⟩
  have hsub : ∀ fuel, Z.vm.isSubclassAux fuel c t = false := fun fuel => by
    cases fuel with
    | zero => rfl
    | succ f =>
      cases f with
      | zero => simp [Vm.isSubclassAux, n1, p2, p4]
      | succ g => simp [Vm.isSubclassAux, n1, p2, p4, n2, o2, o3]
  have hni : kt.isInterface = false := by
    exact (Bool.or_eq_false_iff.mp i4.1).1
  show Z.vm.assignableAux (255 + 1) c t = false
  simp [Vm.assignableAux, n1, p2, i2, p5, i3, hni, Vm.isSubclass, hsub]
end Walk3
end Jvm.Own
namespace Jvm.Own
theorem c16_and (x : Int32) : c16 (x &&& (255 : Int32)) = x &&& (255 : Int32) := by
  have t : ∀ k : Fin 256, c16 (Int32.ofNat k.val) = Int32.ofNat k.val := by decide +kernel
  have h : (x &&& 255).toBitVec.toNat < 256 := by
    simp only [Int32.toBitVec_and, BitVec.toNat_and]
    exact Nat.lt_succ_of_le Nat.and_le_right
  have e : (x &&& 255) = Int32.ofNat (x &&& 255).toBitVec.toNat := by
    apply Int32.toBitVec_inj.mp
    show _ = BitVec.ofNat 32 _
    rw [BitVec.ofNat_toNat]; simp
  rw [e]
  exact t ⟨_, h⟩
theorem c16_mask (a b : Int32) : c16 (a &&& (255 : Int32)) = c16 (b &&& (255 : Int32)) ↔ (a &&& (255 : Int32)) = (b &&& (255 : Int32)) := by rw [c16_and, c16_and]
end Jvm.Own
namespace Jvm.Own
open Jvm Sem ClassFile Op Lib Jvm.Free Jvm.Stand Jvm.LawKit Jvm.RoadKit Bundle
section Walk4
variable {Z : State} {a0 : Array Value} {EL : List (String × Nat)} {n0 : Nat} {p : Program} {l : Launch} {e : Env} {R : Room} {s : State} {m : MethodId} {args : Array Value} {below : List Frame} {meth : Method} {c : Code} {own name : String} {bytes : ByteArray} {maxL : Nat} {ret : Option FieldType}
  {F : State → Outcome → Prop} {T : State} {h : Heap} {k n : Nat} {pc pc' : Nat} {L L' : List Slot} {S S' : List Value} {Q : Option Value → Heap → Prop}
theorem s_lrem (C : Ctx Z a0 EL p s m meth c own name bytes maxL ret) (P : Pos Z EL n0 p l e R s m args below meth c T h k n) {x y : Int64} (hd : decode bytes pc = .ok (.lrem, 1)) (hy : y ≠ 0) (hq : pc + 1 = pc')
    (r : Run p.tables e below F T (fr m pc' L (.long (x - (x / y) * y) :: S))) : Run p.tables e below F T (fr m pc L (.long y :: .long x :: S)) := by
  subst hq
  obtain ⟨vm0, k0, locs, X, -⟩ := P
  exact Run.go (fun t z => XT.lrem X.here C.1 rfl (hb C.2.2.2.1 hd) rfl hy z) r
theorem s_ldcJ (C : Ctx Z a0 EL p s m meth c own name bytes maxL ret) (P : Pos Z EL n0 p l e R s m args below meth c T h k n) {idx : Nat} {v : Int64} (hd : decode bytes pc = .ok (.ldc2_w idx, 3)) (w : (Jvm.Cond.constantLong own idx v).before a0 Z = true) (hq : pc + 3 = pc')
    (r : Run p.tables e below F T (fr m pc' L (.long v :: S))) : Run p.tables e below F T (fr m pc L S) := by
  subst hq
  obtain ⟨vm0, k0, locs, X, eT, hS, hk, hC, hF, hO, hZ, hown⟩ := P.opened C
  exact Run.go (fun t z => X.ldc2J C.1 hown (mv hZ w) rfl (hb C.2.2.2.1 hd) z) r
theorem s_ldcI (C : Ctx Z a0 EL p s m meth c own name bytes maxL ret) (P : Pos Z EL n0 p l e R s m args below meth c T h k n) {idx : Nat} {v : Int32} (hd : decode bytes pc = .ok (.ldc idx, 2)) (w : (Jvm.Cond.constant own idx v).before a0 Z = true) (hq : pc + 2 = pc')
    (r : Run p.tables e below F T (fr m pc' L (.int v :: S))) : Run p.tables e below F T (fr m pc L S) := by
  subst hq
  obtain ⟨vm0, k0, locs, X, eT, hS, hk, hC, hF, hO, hZ, hown⟩ := P.opened C
  exact Run.go (fun t z => X.ldcI C.1 hown (mv hZ w) rfl (hb C.2.2.2.1 hd) z) r
end Walk4
/-- a long's low byte as a char -/
theorem latJ {x : Int64} : ¬ c16 ((x &&& (255 : Int64)).toInt32) < 0 ∧ ¬ (255 : Int32) < c16 ((x &&& (255 : Int64)).toInt32) := by
  have t : ∀ k : Fin 256, ¬ c16 ((Int64.ofNat k.val).toInt32) < 0 ∧ ¬ (255 : Int32) < c16 ((Int64.ofNat k.val).toInt32) := by decide +kernel
  have h : (x &&& 255).toBitVec.toNat < 256 := by
    simp only [Int64.toBitVec_and, BitVec.toNat_and]
    exact Nat.lt_succ_of_le Nat.and_le_right
  have e : (x &&& 255) = Int64.ofNat (x &&& 255).toBitVec.toNat := by
    apply Int64.toBitVec_inj.mp
    show _ = BitVec.ofNat 64 _
    rw [BitVec.ofNat_toNat]; simp
  rw [e]
  exact t ⟨_, h⟩
end Jvm.Own
/- laws to paste: Road.backV (cut by pick.py; bodies as the Statement names them) -/
namespace Jvm.Pilot.@@N@@
namespace StrChars
open Jvm Sem ClassFile Op Lib Jvm.Stand Jvm.Free.XT Jvm.Free.ALB Jvm.Free.JM Jvm.Free
open Jvm.Lib.Cold (StaticIs)
/-- a char array whose places are chars -/
def Ch (a : Addr) (A : Cell) (U : State) : Prop := Arr .char a A U ∧ Typed .char A
theorem Ch.mv {a : Addr} {A : Cell} {U U' : State} (h : Ch a A U) (hal : U.vm.Alike U'.vm) (hh : U'.heap = U.heap) : Ch a A U' := ⟨h.1.mv hal hh, h.2⟩
theorem Ch.keep {a : Addr} {A : Cell} {U U' : State} (h : Ch a A U) (hal : U.vm.Alike U'.vm) (hk : U'.heap[a]? = some A) : Ch a A U' := ⟨h.1.keep hal hk, h.2⟩
/-- what place i of a char[]'s cell holds -/
def cv (A : Cell) (i : Nat) : Int32 := match A.slots[i]? with | some (.int x) => x | _ => 0
theorem Ch.get {a : Addr} {A : Cell} {U : State} (h : Ch a A U) {i : Nat} (hi : i < A.slots.size) : A.slots[i]? = some (.int (cv A i)) := by
  have e := Array.getElem?_eq_getElem hi
  have f := h.2 i _ e
  unfold cv; rw [e]
  generalize A.slots[i] = v at f
  cases v <;> simp [fits] at f ⊢
/-- the byte that i2b leaves of a char -/
def lo8 (x : Int32) : Int32 := x.toInt8.toInt32
theorem fits_lo8 (y : Int32) : fits .byte (.int (lo8 y)) = true := by
  have h1 := y.toInt8.le_toInt
  have h2 := y.toInt8.toInt_lt
  simp only [lo8, fits, Bool.and_eq_true, decide_eq_true_eq, Int32.le_iff_toInt_le, Int8.toInt_toInt32, show (-128 : Int32).toInt = -128 from by decide, show (127 : Int32).toInt = 127 from by decide]
  omega
/-- A' is A but that each place j of lo .. hi - 1 holds f j -/
def Laid (A A' : Cell) (lo hi : Nat) (f : Nat → Value) : Prop := A'.cls = A.cls ∧ A'.vm = A.vm ∧ A'.slots.size = A.slots.size ∧ ∀ i, A'.slots[i]? = if lo ≤ i ∧ i < hi then some (f i) else A.slots[i]?
theorem Laid.zero (A : Cell) (lo : Nat) (f : Nat → Value) : Laid A A lo (lo + 0) f := ⟨rfl, rfl, rfl, fun i => by rw [if_neg (by omega)]⟩
theorem Laid.step {A Ak : Cell} {lo k : Nat} {f : Nat → Value} {v : Value} (h : Laid A Ak lo k f) (hlo : lo ≤ k) (hk : k < Ak.slots.size) (hv : v = f k) : Laid A (Ak.setSlot k v) lo (k + 1) f := by
  refine ⟨h.1, h.2.1, by simpa [Cell.setSlot] using h.2.2.1, fun i => ?_⟩
  by_cases e : k = i
  · subst e; rw [Cell.slots_setSlot_self v hk, if_pos (by omega), hv]
  · rw [Cell.slots_setSlot_ne v e, h.2.2.2 i]
    by_cases q : lo ≤ i ∧ i < k
    · rw [if_pos q, if_pos (by omega)]
    · rw [if_neg q, if_neg (by omega)]
def U16 : String := "java/lang/StringUTF16"
namespace Cmp5
def yN : MethodName := ⟨"java/lang/StringUTF16", "compress", "([CI[BII)I"⟩
abbrev yB : ByteArray := jdk_52_method_21_code
theorem d0 : decode yB 0 = .ok (.iconst 0, 1) := by decide +kernel
theorem d1 : decode yB 1 = .ok (.istore 5, 2) := by decide +kernel
theorem d3 : decode yB 3 = .ok (.iload 5, 2) := by decide +kernel
theorem d5 : decode yB 5 = .ok (.iload 4, 2) := by decide +kernel
theorem d7 : decode yB 7 = .ok (.if_icmp (.ge) 37, 3) := by decide +kernel
theorem d10 : decode yB 10 = .ok (.aload_n 0, 1) := by decide +kernel
theorem d11 : decode yB 11 = .ok (.iload_n 1, 1) := by decide +kernel
theorem d12 : decode yB 12 = .ok (.caload, 1) := by decide +kernel
theorem d13 : decode yB 13 = .ok (.istore 6, 2) := by decide +kernel
theorem d15 : decode yB 15 = .ok (.iload 6, 2) := by decide +kernel
theorem d17 : decode yB 17 = .ok (.sipush 255, 3) := by decide +kernel
theorem d20 : decode yB 20 = .ok (.if_icmp (.le) 6, 3) := by decide +kernel
theorem d26 : decode yB 26 = .ok (.aload_n 2, 1) := by decide +kernel
theorem d27 : decode yB 27 = .ok (.iload_n 3, 1) := by decide +kernel
theorem d28 : decode yB 28 = .ok (.iload 6, 2) := by decide +kernel
theorem d30 : decode yB 30 = .ok (.i2b, 1) := by decide +kernel
theorem d31 : decode yB 31 = .ok (.bastore, 1) := by decide +kernel
theorem d32 : decode yB 32 = .ok (.iinc 1 1, 3) := by decide +kernel
theorem d35 : decode yB 35 = .ok (.iinc 3 1, 3) := by decide +kernel
theorem d38 : decode yB 38 = .ok (.iinc 5 1, 3) := by decide +kernel
theorem d41 : decode yB 41 = .ok (.goto (-38), 3) := by decide +kernel
theorem d44 : decode yB 44 = .ok (.iload 4, 2) := by decide +kernel
theorem d46 : decode yB 46 = .ok (.ireturn, 1) := by decide +kernel
def site : List Cond := []
def tab : Cond := tabOf yN yB 7 (some .int) site
def P (b : Addr) (A : Cell) (d : Addr) (B : Cell) (o q len : Nat) (args : Array Value) (s : State) : Prop := args = #[.ref b, .int (Int32.ofNat o), .ref d, .int (Int32.ofNat q), .int (Int32.ofNat len)] ∧ Ch b A s ∧ Arr .byte d B s ∧ b ≠ d ∧ o + len ≤ A.slots.size ∧ q + len ≤ B.slots.size ∧ ∀ i, i < len → ¬ 255 < cv A (o + i)
def E (b : Addr) (A : Cell) (d : Addr) (B : Cell) (o q len : Nat) (r : Option Value) (s u : State) : Prop := r = some (.int (Int32.ofNat len)) ∧ ∃ B', Put d B' s u ∧ Laid B B' q (q + len) (fun j => Value.int (lo8 (cv A (o + (j - q)))))
/-- no char of the range above 255: len; the places written hold each char's low byte -/
theorem law (l : Launch) (b : Addr) (A : Cell) (d : Addr) (B : Cell) (o q len : Nat) : Law l yN 5 5 0 0 yB 7 (some .int) site (P b A d B o q len) (E b A d B o q len) (copyLocs d q len) 0 0 := by
  refine Law.of_walk (plainFor_of_name (by decide +kernel)) (by decide +kernel) (by decide +kernel) (by decide) (fun _ _ h => by rw [h.1]; rfl) (fun _ U U' hal hh h => ⟨h.1, h.2.1.mv hal hh, h.2.2.1.mv hal hh, h.2.2.2⟩) (fun r U U' V V' h1 hal h2 h => ⟨h.1, h.2.elim fun B' q => ⟨B', q.1.mv h1 h2, q.2⟩⟩) ?_
  intro p e s m args below meth c s₁ X0 hexec hbytes hml hret hlk hnm hown hh0 W hP
  obtain ⟨rfl, hA, hB, hne, l1, l2, hp⟩ := hP
  have c1 : Steps p.tables e below (s₁.setTop (entryFrame m #[.ref b, .int (Int32.ofNat o), .ref d, .int (Int32.ofNat q), .int (Int32.ofNat len)] 7)) (s₁.setTop (mkF m 0 #[.val (.ref b), .val (.int (Int32.ofNat o)), .val (.ref d), .val (.int (Int32.ofNat q)), .val (.int (Int32.ofNat len)), .unset, .unset] [])) := entry rfl
  have hA0 := hA.1.mv X0.warmed.alike hh0
  have hB0 := hB.mv X0.warmed.alike hh0
  have a31 := hA.1.2.2.2
  have c2 : Steps p.tables e below (s₁.setTop (entryFrame m #[.ref b, .int (Int32.ofNat o), .ref d, .int (Int32.ofNat q), .int (Int32.ofNat len)] 7)) (s₁.setTop (mkF m 3 #[.val (.ref b), .val (.int (Int32.ofNat o)), .val (.ref d), .val (.int (Int32.ofNat q)), .val (.int (Int32.ofNat len)), .val (.int 0), .unset] [])) := c1.trans (by
    refine iconstV X0.here hexec rfl 0 (hb hbytes d0) (by decide) ?_
    refine XS.istore X0.here hexec rfl (hb hbytes d1) rfl rfl ?_
    exact Steps.refl _)
  have loop : ∀ (r i : Nat), i + r = len → ∀ (z : Slot), (z = .unset ∨ ∃ w, z = .val w ∧ w.category = 1) → ∀ (Tl : State) (Bk : Cell), Stand p l e { frames := 0, locals := 0, cells := 0, slots := 0 } s m #[.ref b, .int (Int32.ofNat o), .ref d, .int (Int32.ofNat q), .int (Int32.ofNat len)] below meth c Tl ([] ++ copyLocs d q i) 0 0 → Put d Bk s₁ Tl → Laid B Bk q (q + i) (fun j => Value.int (lo8 (cv A (o + (j - q))))) →
      Steps p.tables e below (s₁.setTop (entryFrame m #[.ref b, .int (Int32.ofNat o), .ref d, .int (Int32.ofNat q), .int (Int32.ofNat len)] 7)) (Tl.setTop (mkF m 3 #[.val (.ref b), .val (.int (Int32.ofNat (o + i))), .val (.ref d), .val (.int (Int32.ofNat (q + i))), .val (.int (Int32.ofNat len)), .val (.int (Int32.ofNat i)), z] [])) → ∃ (T' : State) (B' : Cell) (z' : Slot), Stand p l e { frames := 0, locals := 0, cells := 0, slots := 0 } s m #[.ref b, .int (Int32.ofNat o), .ref d, .int (Int32.ofNat q), .int (Int32.ofNat len)] below meth c T' ([] ++ copyLocs d q len) 0 0 ∧ Put d B' s₁ T' ∧ Laid B B' q (q + len) (fun j => Value.int (lo8 (cv A (o + (j - q))))) ∧
      Steps p.tables e below (s₁.setTop (entryFrame m #[.ref b, .int (Int32.ofNat o), .ref d, .int (Int32.ofNat q), .int (Int32.ofNat len)] 7)) (T'.setTop (mkF m 3 #[.val (.ref b), .val (.int (Int32.ofNat (o + len))), .val (.ref d), .val (.int (Int32.ofNat (q + len))), .val (.int (Int32.ofNat len)), .val (.int (Int32.ofNat len)), z'] [])) := by
    intro r
    induction r with
    | zero =>
      intro i hi z hz Tl Bk Xl pl fl cl
      have hil : i = len := by omega
      rw [hil] at Xl fl cl
      exact ⟨Tl, Bk, z, Xl, pl, fl, cl⟩
    | succ r ih =>
      intro i hi z hz Tl Bk Xl pl fl cl
      have all := X0.warmed.alike.symm.trans Xl.warmed.alike
      have hAl := hA0.keep all (pl.other hne hA0.1)
      have hBk := hB0.like all pl.1 fl.1 fl.2.1 fl.2.2.1
      have hlt : q + i < Bk.slots.size := by rw [fl.2.2.1]; omega
      have c3 : Steps p.tables e below (s₁.setTop (entryFrame m #[.ref b, .int (Int32.ofNat o), .ref d, .int (Int32.ofNat q), .int (Int32.ofNat len)] 7)) (Tl.setTop (mkF m 12 #[.val (.ref b), .val (.int (Int32.ofNat (o + i))), .val (.ref d), .val (.int (Int32.ofNat (q + i))), .val (.int (Int32.ofNat len)), .val (.int (Int32.ofNat i)), z] [.int (Int32.ofNat (o + i)), .ref b])) := cl.trans (by
        refine XS.iload Xl.here hexec rfl (hb hbytes d3) rfl ?_
        refine XS.iload Xl.here hexec rfl (hb hbytes d5) rfl ?_
        refine XS.icmpNo Xl.here hexec rfl (hb hbytes d7) rfl (ii_ge_f (lt32 (by omega) (by omega))) ?_
        refine XS.aloadN Xl.here hexec rfl (hb hbytes d10) rfl rfl ?_
        refine XS.iloadN Xl.here hexec rfl (hb hbytes d11) rfl ?_
        exact Steps.refl _)
      have c4 : Steps p.tables e below (s₁.setTop (entryFrame m #[.ref b, .int (Int32.ofNat o), .ref d, .int (Int32.ofNat q), .int (Int32.ofNat len)] 7)) (Tl.setTop (mkF m 13 #[.val (.ref b), .val (.int (Int32.ofNat (o + i))), .val (.ref d), .val (.int (Int32.ofNat (q + i))), .val (.int (Int32.ofNat len)), .val (.int (Int32.ofNat i)), z] [.int (cv A (o + i))])) := c3.trans (by
        refine Xl.aget hexec hAl rfl (hA.get (i := o + i) (by omega)) rfl rfl (hb hbytes d12) ?_
        exact Steps.refl _)
      have c5 : Steps p.tables e below (s₁.setTop (entryFrame m #[.ref b, .int (Int32.ofNat o), .ref d, .int (Int32.ofNat q), .int (Int32.ofNat len)] 7)) (Tl.setTop (mkF m 15 #[.val (.ref b), .val (.int (Int32.ofNat (o + i))), .val (.ref d), .val (.int (Int32.ofNat (q + i))), .val (.int (Int32.ofNat len)), .val (.int (Int32.ofNat i)), .val (.int (cv A (o + i)))] [])) := c4.trans (by
        refine XS.istoreS Xl.here hexec rfl (hb hbytes d13) rfl rfl hz ?_
        exact Steps.refl _)
      have c6 : Steps p.tables e below (s₁.setTop (entryFrame m #[.ref b, .int (Int32.ofNat o), .ref d, .int (Int32.ofNat q), .int (Int32.ofNat len)] 7)) (Tl.setTop (mkF m 31 #[.val (.ref b), .val (.int (Int32.ofNat (o + i))), .val (.ref d), .val (.int (Int32.ofNat (q + i))), .val (.int (Int32.ofNat len)), .val (.int (Int32.ofNat i)), .val (.int (cv A (o + i)))] [.int (lo8 (cv A (o + i))), .int (Int32.ofNat (q + i)), .ref d])) := c5.trans (by
        refine XS.iload Xl.here hexec rfl (hb hbytes d15) rfl ?_
        refine sipushV Xl.here hexec rfl 255 (hb hbytes d17) (by decide) ?_
        refine XS.icmpYes Xl.here hexec rfl (pc0 := 20) rfl (hb hbytes d20) rfl (ii_le_t (hp i (by omega))) (by decide) rfl ?_
        refine XS.aloadN Xl.here hexec rfl (hb hbytes d26) rfl rfl ?_
        refine XS.iloadN Xl.here hexec rfl (hb hbytes d27) rfl ?_
        refine XS.iload Xl.here hexec rfl (hb hbytes d28) rfl ?_
        refine i2b Xl.here hexec rfl (hb hbytes d30) rfl ?_
        exact Steps.refl _)
      obtain ⟨T7, X7, p7, st7⟩ := Xl.aput hexec hBk rfl hlt rfl (fits_lo8 (cv A (o + i))) (g := (mkF m 31 #[.val (.ref b), .val (.int (Int32.ofNat (o + i))), .val (.ref d), .val (.int (Int32.ofNat (q + i))), .val (.int (Int32.ofNat len)), .val (.int (Int32.ofNat i)), .val (.int (cv A (o + i)))] [.int (lo8 (cv A (o + i))), .int (Int32.ofNat (q + i)), .ref d])) rfl (rest := []) rfl (hb hbytes d31)
      have c8 : Steps p.tables e below (s₁.setTop (entryFrame m #[.ref b, .int (Int32.ofNat o), .ref d, .int (Int32.ofNat q), .int (Int32.ofNat len)] 7)) (T7.setTop (mkF m 32 #[.val (.ref b), .val (.int (Int32.ofNat (o + i))), .val (.ref d), .val (.int (Int32.ofNat (q + i))), .val (.int (Int32.ofNat len)), .val (.int (Int32.ofNat i)), .val (.int (cv A (o + i)))] [])) := c6.trans (st7 _ (Steps.refl _))
      have c9 : Steps p.tables e below (s₁.setTop (entryFrame m #[.ref b, .int (Int32.ofNat o), .ref d, .int (Int32.ofNat q), .int (Int32.ofNat len)] 7)) (T7.setTop (mkF m 3 #[.val (.ref b), .val (.int (Int32.ofNat (o + i) + 1)), .val (.ref d), .val (.int (Int32.ofNat (q + i) + 1)), .val (.int (Int32.ofNat len)), .val (.int (Int32.ofNat i + 1)), .val (.int (cv A (o + i)))] [])) := c8.trans (by
        refine iincV X7.here hexec rfl 1 (hb hbytes d32) (by decide) rfl rfl ?_
        refine iincV X7.here hexec rfl 1 (hb hbytes d35) (by decide) rfl rfl ?_
        refine iincV X7.here hexec rfl 1 (hb hbytes d38) (by decide) rfl rfl ?_
        refine XS.goto X7.here hexec rfl (pc0 := 41) rfl (hb hbytes d41) (by decide) rfl ?_
        exact Steps.refl _)
      have c10 : Steps p.tables e below (s₁.setTop (entryFrame m #[.ref b, .int (Int32.ofNat o), .ref d, .int (Int32.ofNat q), .int (Int32.ofNat len)] 7)) (T7.setTop (mkF m 3 #[.val (.ref b), .val (.int (Int32.ofNat (o + (i + 1)))), .val (.ref d), .val (.int (Int32.ofNat (q + (i + 1)))), .val (.int (Int32.ofNat len)), .val (.int (Int32.ofNat (i + 1))), .val (.int (cv A (o + i)))] [])) := by
        have := c9
        rw [succ32, succ32, succ32] at this
        exact this
      exact ih (i + 1) (by omega) _ (Or.inr ⟨_, rfl, rfl⟩) T7 _ (by rw [copyLocs_step, ← List.append_assoc]; exact X7) (pl.trans p7) (fl.step (by omega) hlt (by simp)) c10
  obtain ⟨T9, B9, z9, X9, p9, f9, g9⟩ := loop len 0 (by omega) .unset (Or.inl rfl) s₁ B (by simpa [copyLocs] using X0) ⟨hB0.1, fun _ _ => rfl, rfl⟩ (Laid.zero _ _ _) c2
  have c11 : Steps p.tables e below (s₁.setTop (entryFrame m #[.ref b, .int (Int32.ofNat o), .ref d, .int (Int32.ofNat q), .int (Int32.ofNat len)] 7)) (T9.setTop (mkF m 46 #[.val (.ref b), .val (.int (Int32.ofNat (o + len))), .val (.ref d), .val (.int (Int32.ofNat (q + len))), .val (.int (Int32.ofNat len)), .val (.int (Int32.ofNat len)), z9] [.int (Int32.ofNat len)])) := g9.trans (by
    refine XS.iload X9.here hexec rfl (hb hbytes d3) rfl ?_
    refine XS.iload X9.here hexec rfl (hb hbytes d5) rfl ?_
    refine XS.icmpYes X9.here hexec rfl (pc0 := 7) rfl (hb hbytes d7) rfl (ii_ge_t (nlt32 (by omega) (Nat.le_refl _))) (by decide) rfl ?_
    refine XS.iload X9.here hexec rfl (hb hbytes d44) rfl ?_
    exact Steps.refl _)
  exact ⟨T9, some (.int (Int32.ofNat len)), _, _, _, X9, by simp, rfl, rfl, (fun h => by cases h), ⟨rfl, B9, p9.from hh0, f9⟩, fun fs hl => c11.trans (X9.ireturnOut hexec hret rfl (Or.inl rfl) (hb hbytes d46) hl)⟩
end Cmp5
namespace Cmp3
def yN : MethodName := ⟨"java/lang/StringUTF16", "compress", "([CII)[B"⟩
abbrev yB : ByteArray := jdk_52_method_16_code
theorem d0 : decode yB 0 = .ok (.iload_n 2, 1) := by decide +kernel
theorem d1 : decode yB 1 = .ok (.newarray .byte, 2) := by decide +kernel
theorem d3 : decode yB 3 = .ok (.astore_n 3, 1) := by decide +kernel
theorem d4 : decode yB 4 = .ok (.aload_n 0, 1) := by decide +kernel
theorem d5 : decode yB 5 = .ok (.iload_n 1, 1) := by decide +kernel
theorem d6 : decode yB 6 = .ok (.aload_n 3, 1) := by decide +kernel
theorem d7 : decode yB 7 = .ok (.iconst 0, 1) := by decide +kernel
theorem d8 : decode yB 8 = .ok (.iload_n 2, 1) := by decide +kernel
theorem d9 : decode yB 9 = .ok (.invokestatic 115, 3) := by decide +kernel
theorem d12 : decode yB 12 = .ok (.istore 4, 2) := by decide +kernel
theorem d14 : decode yB 14 = .ok (.iload 4, 2) := by decide +kernel
theorem d16 : decode yB 16 = .ok (.iload_n 2, 1) := by decide +kernel
theorem d17 : decode yB 17 = .ok (.if_icmp (.eq) 40, 3) := by decide +kernel
theorem d57 : decode yB 57 = .ok (.aload_n 3, 1) := by decide +kernel
theorem d58 : decode yB 58 = .ok (.areturn, 1) := by decide +kernel
def site : List Cond := [.arrayClass .byte, Cmp5.tab] ++ staticW U16 115 Cmp5.yN
def tab : Cond := tabOf yN yB 6 (some (.array .byte)) site
def P (b : Addr) (A : Cell) (o len : Nat) (args : Array Value) (s : State) : Prop := args = #[.ref b, .int (Int32.ofNat o), .int (Int32.ofNat len)] ∧ Ch b A s ∧ o + len ≤ A.slots.size ∧ len ≤ 536870912 ∧ ∀ i, i < len → ¬ 255 < cv A (o + i)
def E (b : Addr) (A : Cell) (o len : Nat) (r : Option Value) (s u : State) : Prop := NewArr .byte "[B" len (fun j => .int (lo8 (cv A (o + j)))) r s u ∧ u.heap.size = s.heap.size + 1
/-- no char of the range above 255: a new byte[] of their low bytes -/
theorem law (l : Launch) (b : Addr) (A : Cell) (o len : Nat) : Law l yN 3 3 1 18 yB 6 (some (.array .byte)) site (P b A o len) (E b A o len) [] 1 len := by
  refine Law.of_walk (plainFor_of_name (by decide +kernel)) (by decide +kernel) (by decide +kernel) (by decide) (fun _ _ h => by rw [h.1]; rfl) (fun _ U U' hal hh h => ⟨h.1, h.2.1.mv hal hh, h.2.2⟩) (fun r U U' V V' h1 hal h2 h => ⟨NewArr.mv r U U' V V' h1 hal h2 h.1, by rw [h1, h2]; exact h.2⟩) ?_
  intro p e s m args below meth c s₁ X0 hexec hbytes hml hret hlk hnm hown hh0 W hP
  obtain ⟨rfl, hA, l1, l2, hp⟩ := hP
  have a31 := hA.1.2.2.2
  have c1 : Steps p.tables e below (s₁.setTop (entryFrame m #[.ref b, .int (Int32.ofNat o), .int (Int32.ofNat len)] 6)) (s₁.setTop (mkF m 0 #[.val (.ref b), .val (.int (Int32.ofNat o)), .val (.int (Int32.ofNat len)), .unset, .unset, .unset] [])) := entry rfl
  have c2 : Steps p.tables e below (s₁.setTop (entryFrame m #[.ref b, .int (Int32.ofNat o), .int (Int32.ofNat len)] 6)) (s₁.setTop (mkF m 1 #[.val (.ref b), .val (.int (Int32.ofNat o)), .val (.int (Int32.ofNat len)), .unset, .unset, .unset] [.int (Int32.ofNat len)])) := c1.trans (by
    refine XS.iloadN X0.here hexec rfl (hb hbytes d0) rfl ?_
    exact Steps.refl _)
  obtain ⟨T3, B3, X3, ba3, bs3, bv3, bh3, bf3, st3⟩ := X0.anew hexec (atype := .byte) (wk W (.arrayClass .byte)) rfl (by show len * 1 ≤ _; omega) (by omega) (g := (mkF m 1 #[.val (.ref b), .val (.int (Int32.ofNat o)), .val (.int (Int32.ofNat len)), .unset, .unset, .unset] [.int (Int32.ofNat len)])) rfl (hb hbytes d1) (rest := []) rfl (Nat.le_refl _) (by show 0 + len ≤ len; omega)
  rw [hh0] at ba3 st3
  have kp3 : XT.Kept s T3 := (XT.Kept.of_eq hh0).push bh3
  have hA3 := hA.keep X3.warmed.alike (kp3 _ _ hA.1.1)
  have hne : b ≠ s.heap.size := hA.1.ne
  have c4 : Steps p.tables e below (s₁.setTop (entryFrame m #[.ref b, .int (Int32.ofNat o), .int (Int32.ofNat len)] 6)) (T3.setTop (mkF m 3 #[.val (.ref b), .val (.int (Int32.ofNat o)), .val (.int (Int32.ofNat len)), .unset, .unset, .unset] [.ref s.heap.size])) := c2.trans (st3 _ (Steps.refl _))
  have c5 : Steps p.tables e below (s₁.setTop (entryFrame m #[.ref b, .int (Int32.ofNat o), .int (Int32.ofNat len)] 6)) (T3.setTop (mkF m 9 #[.val (.ref b), .val (.int (Int32.ofNat o)), .val (.int (Int32.ofNat len)), .val (.ref s.heap.size), .unset, .unset] [.int (Int32.ofNat len), .int 0, .ref s.heap.size, .int (Int32.ofNat o), .ref b])) := c4.trans (by
    refine XS.astoreN X3.here hexec rfl (hb hbytes d3) rfl rfl rfl ?_
    refine XS.aloadN X3.here hexec rfl (hb hbytes d4) rfl rfl ?_
    refine XS.iloadN X3.here hexec rfl (hb hbytes d5) rfl ?_
    refine XS.aloadN X3.here hexec rfl (hb hbytes d6) rfl rfl ?_
    refine iconstV X3.here hexec rfl 0 (hb hbytes d7) (by decide) ?_
    refine XS.iloadN X3.here hexec rfl (hb hbytes d8) rfl ?_
    exact Steps.refl _)
  obtain ⟨v6, T6, X6, E6, g6⟩ := X3.callS hexec (Cmp5.law l b A s.heap.size B3 o 0 len) hown (wks W (staticW U16 115 Cmp5.yN)) (wk W Cmp5.tab) (W := 0) (Nat.le_of_ble_eq_true rfl) (Nat.le_of_ble_eq_true rfl) (Nat.le_refl _) (by show 0 + len + 0 ≤ len; omega) (g := (mkF m 9 #[.val (.ref b), .val (.int (Int32.ofNat o)), .val (.int (Int32.ofNat len)), .val (.ref s.heap.size), .unset, .unset] [.int (Int32.ofNat len), .int (Int32.ofNat 0), .ref s.heap.size, .int (Int32.ofNat o), .ref b])) rfl (by rw [hml]; rfl) c5 (argsL := [.ref b, .int (Int32.ofNat o), .ref s.heap.size, .int (Int32.ofNat 0), .int (Int32.ofNat len)]) (rest := []) rfl rfl (by show 2 * 0 + 0 ≤ _; decide) (hb hbytes d9) (⟨rfl, hA3, ba3, hne, l1, by rw [bs3]; simp, hp⟩)
  obtain ⟨rfl, B6, p6, f6⟩ := E6
  have c7 : Steps p.tables e below (s₁.setTop (entryFrame m #[.ref b, .int (Int32.ofNat o), .int (Int32.ofNat len)] 6)) (T6.setTop (mkF m 12 #[.val (.ref b), .val (.int (Int32.ofNat o)), .val (.int (Int32.ofNat len)), .val (.ref s.heap.size), .unset, .unset] [.int (Int32.ofNat len)])) := g6
  have c8 : Steps p.tables e below (s₁.setTop (entryFrame m #[.ref b, .int (Int32.ofNat o), .int (Int32.ofNat len)] 6)) (T6.setTop (mkF m 58 #[.val (.ref b), .val (.int (Int32.ofNat o)), .val (.int (Int32.ofNat len)), .val (.ref s.heap.size), .val (.int (Int32.ofNat len)), .unset] [.ref s.heap.size])) := c7.trans (by
    refine XS.istore X6.here hexec rfl (hb hbytes d12) rfl rfl ?_
    refine XS.iload X6.here hexec rfl (hb hbytes d14) rfl ?_
    refine XS.iloadN X6.here hexec rfl (hb hbytes d16) rfl ?_
    refine XS.icmpYes X6.here hexec rfl (pc0 := 17) rfl (hb hbytes d17) rfl (ii_eq_t rfl) (by decide) rfl ?_
    refine XS.aloadN X6.here hexec rfl (hb hbytes d57) rfl rfl ?_
    exact Steps.refl _)
  have X8 := X6.wide (L' := []) (cells' := 1) (slots' := len) (fun x hx hlt => by
    simp only [List.nil_append, copyLocs, List.mem_map, List.mem_range] at hx
    obtain ⟨i, -, rfl⟩ := hx
    exact absurd hlt (Nat.lt_irrefl _)) (Nat.le_refl _) (by omega)
  exact ⟨T6, some (.ref s.heap.size), _, _, _, X8, rfl, rfl, rfl, (fun h => by cases h), ⟨⟨rfl, B6, ba3.like (X3.warmed.alike.symm.trans X6.warmed.alike) p6.1 f6.1 f6.2.1 f6.2.2.1, f6.2.1.trans bv3, by rw [X6.warmed.alike.findClass, f6.1]; exact bf3, by rw [f6.2.2.1, bs3]; simp, fun j hj => by rw [f6.2.2.2 j, if_pos (by omega)]; rfl, kp3.put p6 (Nat.le_refl _)⟩, by rw [p6.2.2, bh3, hh0]; simp⟩, fun fs hl => c8.trans (X8.areturnOut hexec rfl hret rfl (hb hbytes d58) hl)⟩
end Cmp3
namespace CodL
def yN : MethodName := ⟨"java/lang/StringUTF16", "coderFromArrayLen", "([BI)B"⟩
abbrev yB : ByteArray := jdk_52_method_15_code
theorem d0 : decode yB 0 = .ok (.iload_n 1, 1) := by decide +kernel
theorem d1 : decode yB 1 = .ok (.aload_n 0, 1) := by decide +kernel
theorem d2 : decode yB 2 = .ok (.arraylength, 1) := by decide +kernel
theorem d3 : decode yB 3 = .ok (.isub, 1) := by decide +kernel
theorem d4 : decode yB 4 = .ok (.bipush 31, 2) := by decide +kernel
theorem d6 : decode yB 6 = .ok (.iushr, 1) := by decide +kernel
theorem d7 : decode yB 7 = .ok (.i2b, 1) := by decide +kernel
theorem d8 : decode yB 8 = .ok (.ireturn, 1) := by decide +kernel
def site : List Cond := []
def tab : Cond := tabOf yN yB 2 (some .byte) site
def P (d : Addr) (B : Cell) (args : Array Value) (s : State) : Prop := args = #[.ref d, .int (Int32.ofNat B.slots.size)] ∧ Arr .byte d B s
def E (r : Option Value) (s u : State) : Prop := XT.PureE (some (.int 0)) r s u
/-- an array as long as the number of chars: LATIN1 -/
theorem law (l : Launch) (d : Addr) (B : Cell) : Law l yN 2 2 0 0 yB 2 (some .byte) site (P d B) E [] 0 0 := by
  refine Law.of_walk (plainFor_of_name (by decide +kernel)) (by decide +kernel) (by decide +kernel) (by decide) (fun _ _ h => by rw [h.1]; rfl) (fun _ U U' hal hh h => ⟨h.1, h.2.mv hal hh⟩) (fun r U U' V V' h1 hal h2 h => XT.PureE.mv r U U' V V' h1 hal h2 h) ?_
  intro p e s m args below meth c s₁ X0 hexec hbytes hml hret hlk hnm hown hh0 W hP
  obtain ⟨rfl, hB⟩ := hP
  have hB0 := hB.mv X0.warmed.alike hh0
  have c1 : Steps p.tables e below (s₁.setTop (entryFrame m #[.ref d, .int (Int32.ofNat B.slots.size)] 2)) (s₁.setTop (mkF m 0 #[.val (.ref d), .val (.int (Int32.ofNat B.slots.size))] [])) := entry rfl
  have c2 : Steps p.tables e below (s₁.setTop (entryFrame m #[.ref d, .int (Int32.ofNat B.slots.size)] 2)) (s₁.setTop (mkF m 2 #[.val (.ref d), .val (.int (Int32.ofNat B.slots.size))] [.ref d, .int (Int32.ofNat B.slots.size)])) := c1.trans (by
    refine XS.iloadN X0.here hexec rfl (hb hbytes d0) rfl ?_
    refine XS.aloadN X0.here hexec rfl (hb hbytes d1) rfl rfl ?_
    exact Steps.refl _)
  have c3 : Steps p.tables e below (s₁.setTop (entryFrame m #[.ref d, .int (Int32.ofNat B.slots.size)] 2)) (s₁.setTop (mkF m 8 #[.val (.ref d), .val (.int (Int32.ofNat B.slots.size))] [.int (lo8 (ushr (Int32.ofNat B.slots.size - Int32.ofNat B.slots.size) 31))])) := c2.trans (by
    refine X0.alen hexec hB0 rfl rfl (hb hbytes d2) ?_
    refine XS.isub X0.here hexec rfl (hb hbytes d3) rfl ?_
    refine bipushV X0.here hexec rfl 31 (hb hbytes d4) (by decide) ?_
    refine iushr X0.here hexec rfl (hb hbytes d6) rfl ?_
    refine i2b X0.here hexec rfl (hb hbytes d7) rfl ?_
    exact Steps.refl _)
  have e0 : lo8 (ushr (Int32.ofNat B.slots.size - Int32.ofNat B.slots.size) 31) = 0 := by rw [Int32.sub_self]; decide
  rw [e0] at c3
  exact ⟨s₁, some (.int 0), _, _, _, X0, rfl, rfl, rfl, (fun h => by cases h), ⟨rfl, hh0⟩, fun fs hl => c3.trans (X0.ireturnOut hexec hret rfl (Or.inr (Or.inr (Or.inl rfl))) (hb hbytes d8) hl)⟩
end CodL
/-- the String at a is Latin-1 over a new byte[] (the heap's one new cell): the low bytes of the len chars of A from o on; every cell but a is kept -/
def Got (a : Addr) (D : Cell) (fV fC : Field) (A : Cell) (o len : Nat) (r : Option Value) (s u : State) : Prop := r = none ∧ ∃ D' V : Cell, Blank "java/lang/String" a D' u ∧ Same D D' [fV.slot, fC.slot] ∧ D'.slots[fV.slot]? = some (.ref s.heap.size) ∧ D'.slots[fC.slot]? = some (.int 0) ∧ Arr .byte s.heap.size V u ∧ V.vm = .none ∧ u.vm.findClass "[B" = some V.cls ∧ V.slots.size = len ∧ (∀ j, j < len → V.slots[j]? = some (.int (lo8 (cv A (o + j))))) ∧ (∀ (y : Addr) (c : Cell), y ≠ a → s.heap[y]? = some c → u.heap[y]? = some c) ∧ u.heap.size = s.heap.size + 1
theorem Got.mv {a : Addr} {D A : Cell} {fV fC : Field} {o len : Nat} : ∀ r (U U' V V' : State), U'.heap = U.heap → V.vm.Alike V'.vm → V'.heap = V.heap → Got a D fV fC A o len r U V → Got a D fV fC A o len r U' V' :=
  fun r U U' V V' h1 hal h2 ⟨e0, D', X, a1, a2, a3, a4, a5, a6, a7, a8, a9, a10, a11⟩ => ⟨e0, D', X, a1.mv hal h2, a2, by rw [h1]; exact a3, a4, by rw [h1]; exact a5.mv hal h2, a6, by rw [hal.findClass]; exact a7, a8, a9, by rw [h1, h2]; exact a10, by rw [h1, h2]; exact a11⟩
namespace New4
def yN : MethodName := ⟨"java/lang/String", "<init>", "([CIILjava/lang/Void;)V"⟩
abbrev yB : ByteArray := jdk_42_method_149_code
theorem d0 : decode yB 0 = .ok (.aload_n 0, 1) := by decide +kernel
theorem d1 : decode yB 1 = .ok (.invokespecial 1, 3) := by decide +kernel
theorem d4 : decode yB 4 = .ok (.iload_n 3, 1) := by decide +kernel
theorem d5 : decode yB 5 = .ok (.ifCond (.ne) 22, 3) := by decide +kernel
theorem d27 : decode yB 27 = .ok (.getstatic 38, 3) := by decide +kernel
theorem d30 : decode yB 30 = .ok (.ifCond (.eq) 28, 3) := by decide +kernel
theorem d33 : decode yB 33 = .ok (.aload_n 1, 1) := by decide +kernel
theorem d34 : decode yB 34 = .ok (.iload_n 2, 1) := by decide +kernel
theorem d35 : decode yB 35 = .ok (.iload_n 3, 1) := by decide +kernel
theorem d36 : decode yB 36 = .ok (.invokestatic 177, 3) := by decide +kernel
theorem d39 : decode yB 39 = .ok (.astore 5, 2) := by decide +kernel
theorem d41 : decode yB 41 = .ok (.aload_n 0, 1) := by decide +kernel
theorem d42 : decode yB 42 = .ok (.aload 5, 2) := by decide +kernel
theorem d44 : decode yB 44 = .ok (.iload_n 3, 1) := by decide +kernel
theorem d45 : decode yB 45 = .ok (.invokestatic 47, 3) := by decide +kernel
theorem d48 : decode yB 48 = .ok (.putfield 15, 3) := by decide +kernel
theorem d51 : decode yB 51 = .ok (.aload_n 0, 1) := by decide +kernel
theorem d52 : decode yB 52 = .ok (.aload 5, 2) := by decide +kernel
theorem d54 : decode yB 54 = .ok (.putfield 9, 3) := by decide +kernel
theorem d57 : decode yB 57 = .ok (.return_, 1) := by decide +kernel
def site : List Cond := [.fieldLink "java/lang/String" 38 "java/lang/String" "COMPACT_STRINGS" "Z", Cmp3.tab, CodL.tab, .laysFinal "java/lang/String" "java/lang/String" "value" "[B", .fieldLink "java/lang/String" 9 "java/lang/String" "value" "[B", .laysFinal "java/lang/String" "java/lang/String" "coder" "B", .fieldLink "java/lang/String" 15 "java/lang/String" "coder" "B"] ++ objW "java/lang/String" 1 ++ staticW "java/lang/String" 177 Cmp3.yN ++ staticW "java/lang/String" 47 CodL.yN
def tab : Cond := tabOf yN yB 6 none site
def P (a : Addr) (D : Cell) (fV fC : Field) (b : Addr) (A : Cell) (z : Int32) (o len : Nat) (args : Array Value) (s : State) : Prop := args = #[.ref a, .ref b, .int (Int32.ofNat o), .int (Int32.ofNat len), .null] ∧ Blank "java/lang/String" a D s ∧ Found "java/lang/String" "value" "[B" fV s ∧ Found "java/lang/String" "coder" "B" fC s ∧ Ch b A s ∧ StaticIs s "java/lang/String" "COMPACT_STRINGS" "Z" (.int z) ∧ ¬ z = 0 ∧ 0 < len ∧ o + len ≤ A.slots.size ∧ len ≤ 536870912 ∧ ∀ i, i < len → ¬ 255 < cv A (o + i)
def E (a : Addr) (D : Cell) (fV fC : Field) (A : Cell) (o len : Nat) (r : Option Value) (s u : State) : Prop := Got a D fV fC A o len r s u
/-- len > 0, no char of the range above 255: a Latin-1 String of their low bytes -/
theorem law (l : Launch) (a : Addr) (D : Cell) (fV fC : Field) (b : Addr) (A : Cell) (z : Int32) (o len : Nat) : Law l yN 5 4 2 35 yB 6 none site (P a D fV fC b A z o len) (E a D fV fC A o len) [⟨a, fC.slot⟩, ⟨a, fV.slot⟩] 1 len := by
  refine Law.of_walk (plainFor_of_name (by decide +kernel)) (by decide +kernel) (by decide +kernel) (by decide) (fun _ _ h => by rw [h.1]; rfl) (fun _ U U' hal hh h => ⟨h.1, h.2.1.mv hal hh, h.2.2.1.al hal, h.2.2.2.1.al hal, h.2.2.2.2.1.mv hal hh, h.2.2.2.2.2.1.there hal hh, h.2.2.2.2.2.2⟩) (fun r U U' V V' h1 hal h2 h => Got.mv r U U' V V' h1 hal h2 h) ?_
  intro p e s m args below meth c s₁ X0 hexec hbytes hml hret hlk hnm hown hh0 W hP
  obtain ⟨rfl, hB, f1, f2, hA, s1, hz, l0, l1, l2, hp⟩ := hP
  have a31 := hA.1.2.2.2
  have c1 : Steps p.tables e below (s₁.setTop (entryFrame m #[.ref a, .ref b, .int (Int32.ofNat o), .int (Int32.ofNat len), .null] 6)) (s₁.setTop (mkF m 0 #[.val (.ref a), .val (.ref b), .val (.int (Int32.ofNat o)), .val (.int (Int32.ofNat len)), .val .null, .unset] [])) := entry rfl
  have c2 : Steps p.tables e below (s₁.setTop (entryFrame m #[.ref a, .ref b, .int (Int32.ofNat o), .int (Int32.ofNat len), .null] 6)) (s₁.setTop (mkF m 1 #[.val (.ref a), .val (.ref b), .val (.int (Int32.ofNat o)), .val (.int (Int32.ofNat len)), .val .null, .unset] [.ref a])) := c1.trans (by
    refine XS.aloadN X0.here hexec rfl (hb hbytes d0) rfl rfl ?_
    exact Steps.refl _)
  obtain ⟨T3, X3, q3, st3⟩ := X0.oinit hexec hown (wks W (objW "java/lang/String" 1)) (g := (mkF m 1 #[.val (.ref a), .val (.ref b), .val (.int (Int32.ofNat o)), .val (.int (Int32.ofNat len)), .val .null, .unset] [.ref a])) rfl (by rw [hml]; rfl) (rest := []) rfl (hb hbytes d1) (W := 0) (by show 2 * 0 + 0 ≤ _; decide) (Nat.le_of_ble_eq_true rfl) (Nat.le_of_ble_eq_true rfl)
  have hh3 := q3.trans hh0
  have c4 : Steps p.tables e below (s₁.setTop (entryFrame m #[.ref a, .ref b, .int (Int32.ofNat o), .int (Int32.ofNat len), .null] 6)) (T3.setTop (mkF m 27 #[.val (.ref a), .val (.ref b), .val (.int (Int32.ofNat o)), .val (.int (Int32.ofNat len)), .val .null, .unset] [])) := (c2.trans (st3 _ (Steps.refl _))).trans (by
    refine XS.iloadN X3.here hexec rfl (hb hbytes d4) rfl ?_
    refine XS.ifYes X3.here hexec rfl (pc0 := 5) rfl (hb hbytes d5) rfl (i0_ne_t (nz32 (by omega) l0)) (by decide) rfl ?_
    exact Steps.refl _)
  obtain ⟨T5, X5, q5, st5⟩ := X3.sget hexec hown (wk W (.fieldLink "java/lang/String" 38 "java/lang/String" "COMPACT_STRINGS" "Z")) s1 (fun _ _ h => by rw [hh3]; exact h) (g := (mkF m 27 #[.val (.ref a), .val (.ref b), .val (.int (Int32.ofNat o)), .val (.int (Int32.ofNat len)), .val .null, .unset] [])) rfl (hb hbytes d27)
  have hh5 := q5.trans hh3
  have c6 : Steps p.tables e below (s₁.setTop (entryFrame m #[.ref a, .ref b, .int (Int32.ofNat o), .int (Int32.ofNat len), .null] 6)) (T5.setTop (mkF m 30 #[.val (.ref a), .val (.ref b), .val (.int (Int32.ofNat o)), .val (.int (Int32.ofNat len)), .val .null, .unset] [.int z])) := c4.trans (st5 _ (Steps.refl _))
  have c7 : Steps p.tables e below (s₁.setTop (entryFrame m #[.ref a, .ref b, .int (Int32.ofNat o), .int (Int32.ofNat len), .null] 6)) (T5.setTop (mkF m 36 #[.val (.ref a), .val (.ref b), .val (.int (Int32.ofNat o)), .val (.int (Int32.ofNat len)), .val .null, .unset] [.int (Int32.ofNat len), .int (Int32.ofNat o), .ref b])) := c6.trans (by
    refine XS.ifNo X5.here hexec rfl (hb hbytes d30) rfl (i0_eq_f hz) ?_
    refine XS.aloadN X5.here hexec rfl (hb hbytes d33) rfl rfl ?_
    refine XS.iloadN X5.here hexec rfl (hb hbytes d34) rfl ?_
    refine XS.iloadN X5.here hexec rfl (hb hbytes d35) rfl ?_
    exact Steps.refl _)
  obtain ⟨v8, T8, X8, E8, g8⟩ := X5.callS hexec (Cmp3.law l b A o len) hown (wks W (staticW "java/lang/String" 177 Cmp3.yN)) (wk W Cmp3.tab) (W := 0) (Nat.le_of_ble_eq_true rfl) (Nat.le_of_ble_eq_true rfl) (Nat.le_refl _) (by show 0 + len ≤ len; omega) (g := (mkF m 36 #[.val (.ref a), .val (.ref b), .val (.int (Int32.ofNat o)), .val (.int (Int32.ofNat len)), .val .null, .unset] [.int (Int32.ofNat len), .int (Int32.ofNat o), .ref b])) rfl (by rw [hml]; rfl) c7 (argsL := [.ref b, .int (Int32.ofNat o), .int (Int32.ofNat len)]) (rest := []) rfl rfl (by show 2 * 0 + 0 ≤ _; decide) (hb hbytes d36) (⟨rfl, hA.mv X5.warmed.alike hh5, l1, l2, hp⟩)
  obtain ⟨e8, z8⟩ := E8
  obtain ⟨rfl, N, n1, n2, n3, n4, n5, n6⟩ := NewArr.mv _ T5 s _ _ hh5.symm (Vm.Alike.refl _) rfl e8
  rw [hh5] at z8
  have hB1 := hB.keep X8.warmed.alike (n6 _ _ hB.1)
  have hne : s.heap.size ≠ a := (Nat.ne_of_lt (Array.getElem?_eq_some_iff.mp hB.1).1).symm
  have c9 : Steps p.tables e below (s₁.setTop (entryFrame m #[.ref a, .ref b, .int (Int32.ofNat o), .int (Int32.ofNat len), .null] 6)) (T8.setTop (mkF m 39 #[.val (.ref a), .val (.ref b), .val (.int (Int32.ofNat o)), .val (.int (Int32.ofNat len)), .val .null, .unset] [.ref s.heap.size])) := g8
  have c10 : Steps p.tables e below (s₁.setTop (entryFrame m #[.ref a, .ref b, .int (Int32.ofNat o), .int (Int32.ofNat len), .null] 6)) (T8.setTop (mkF m 45 #[.val (.ref a), .val (.ref b), .val (.int (Int32.ofNat o)), .val (.int (Int32.ofNat len)), .val .null, .val (.ref s.heap.size)] [.int (Int32.ofNat N.slots.size), .ref s.heap.size, .ref a])) := by
    have hc : Steps p.tables e below (s₁.setTop (entryFrame m #[.ref a, .ref b, .int (Int32.ofNat o), .int (Int32.ofNat len), .null] 6)) (T8.setTop (mkF m 45 #[.val (.ref a), .val (.ref b), .val (.int (Int32.ofNat o)), .val (.int (Int32.ofNat len)), .val .null, .val (.ref s.heap.size)] [.int (Int32.ofNat len), .ref s.heap.size, .ref a])) := c9.trans (by
      refine XS.astore X8.here hexec rfl (hb hbytes d39) rfl rfl rfl ?_
      refine XS.aloadN X8.here hexec rfl (hb hbytes d41) rfl rfl ?_
      refine XS.aload X8.here hexec rfl (hb hbytes d42) rfl rfl ?_
      refine XS.iloadN X8.here hexec rfl (hb hbytes d44) rfl ?_
      exact Steps.refl _)
    rw [n4]; exact hc
  obtain ⟨v11, T11, X11, E11, g11⟩ := X8.callS hexec (CodL.law l s.heap.size N) hown (wks W (staticW "java/lang/String" 47 CodL.yN)) (wk W CodL.tab) (W := 1) (Nat.le_of_ble_eq_true rfl) (Nat.le_of_ble_eq_true rfl) (Nat.le_refl _) (by show 0 + len + 0 ≤ len; omega) (g := (mkF m 45 #[.val (.ref a), .val (.ref b), .val (.int (Int32.ofNat o)), .val (.int (Int32.ofNat len)), .val .null, .val (.ref s.heap.size)] [.int (Int32.ofNat N.slots.size), .ref s.heap.size, .ref a])) rfl (by rw [hml]; rfl) c10 (argsL := [.ref s.heap.size, .int (Int32.ofNat N.slots.size)]) (rest := [.ref a]) rfl rfl (by show 2 * 0 + (1 + 0) ≤ _; decide) (hb hbytes d45) (⟨rfl, n1⟩)
  obtain ⟨rfl, q11⟩ := E11
  have hB11 := hB1.mv (X8.warmed.alike.symm.trans X11.warmed.alike) q11
  have c12 : Steps p.tables e below (s₁.setTop (entryFrame m #[.ref a, .ref b, .int (Int32.ofNat o), .int (Int32.ofNat len), .null] 6)) (T11.setTop (mkF m 48 #[.val (.ref a), .val (.ref b), .val (.int (Int32.ofNat o)), .val (.int (Int32.ofNat len)), .val .null, .val (.ref s.heap.size)] [.int 0, .ref a])) := g11
  obtain ⟨T13, X13, p13, bl13, sl13, st13⟩ := X11.finit hexec hown (wk W (.fieldLink "java/lang/String" 15 "java/lang/String" "coder" "B")) (Or.inr ⟨_, (wk W (.laysFinal "java/lang/String" "java/lang/String" "coder" "B"))⟩) (Or.inl ⟨rfl, hnm⟩) f2 (Or.inl rfl) hB11 (t := .byte) (by decide +kernel) rfl (g := (mkF m 48 #[.val (.ref a), .val (.ref b), .val (.int (Int32.ofNat o)), .val (.int (Int32.ofNat len)), .val .null, .val (.ref s.heap.size)] [.int 0, .ref a])) rfl (rest := []) rfl (hb hbytes d48)
  have c14 : Steps p.tables e below (s₁.setTop (entryFrame m #[.ref a, .ref b, .int (Int32.ofNat o), .int (Int32.ofNat len), .null] 6)) (T13.setTop (mkF m 54 #[.val (.ref a), .val (.ref b), .val (.int (Int32.ofNat o)), .val (.int (Int32.ofNat len)), .val .null, .val (.ref s.heap.size)] [.ref s.heap.size, .ref a])) := (c12.trans (st13 _ (Steps.refl _))).trans (by
    refine XS.aloadN X13.here hexec rfl (hb hbytes d51) rfl rfl ?_
    refine XS.aload X13.here hexec rfl (hb hbytes d52) rfl rfl ?_
    exact Steps.refl _)
  obtain ⟨T15, X15, p15, bl15, sl15, st15⟩ := X13.finit hexec hown (wk W (.fieldLink "java/lang/String" 9 "java/lang/String" "value" "[B")) (Or.inr ⟨_, (wk W (.laysFinal "java/lang/String" "java/lang/String" "value" "[B"))⟩) (Or.inl ⟨rfl, hnm⟩) f1 (Or.inl rfl) bl13 (t := (.array .byte)) (by decide +kernel) rfl (g := (mkF m 54 #[.val (.ref a), .val (.ref b), .val (.int (Int32.ofNat o)), .val (.int (Int32.ofNat len)), .val .null, .val (.ref s.heap.size)] [.ref s.heap.size, .ref a])) rfl (rest := []) rfl (hb hbytes d54)
  have c16 : Steps p.tables e below (s₁.setTop (entryFrame m #[.ref a, .ref b, .int (Int32.ofNat o), .int (Int32.ofNat len), .null] 6)) (T15.setTop (mkF m 57 #[.val (.ref a), .val (.ref b), .val (.int (Int32.ofNat o)), .val (.int (Int32.ofNat len)), .val .null, .val (.ref s.heap.size)] [])) := c14.trans (st15 _ (Steps.refl _))
  have ap := apart (Or.inr ⟨_, (wk W (.laysFinal "java/lang/String" "java/lang/String" "value" "[B"))⟩) (Or.inr ⟨_, (wk W (.laysFinal "java/lang/String" "java/lang/String" "coder" "B"))⟩) f1 f2 (t₁ := .array .byte) (t₂ := .byte) (by decide +kernel) (by decide +kernel) (by decide)
  have al := X8.warmed.alike.symm.trans X15.warmed.alike
  have n7 : T11.heap[s.heap.size]? = some N := by rw [q11]; exact n1.1
  exact ⟨T15, none, _, _, _, X15, by simp, rfl, by omega, (fun _ => rfl), ⟨rfl, _, N, bl15, ((Same.refl D _).set _ (by simp)).set _ (by simp), sl15, (Cell.slots_setSlot_ne _ ap).trans sl13, n1.keep al (p15.other hne (p13.other hne n7)), n2, by rw [al.findClass]; exact n3, n4, n5, fun y c h1 h2 => p15.other h1 (p13.other h1 (by rw [q11]; exact n6 y c h2)), by rw [p15.2.2, p13.2.2, q11]; exact z8⟩, fun fs hl => c16.trans (X15.returnOut hexec hret (hb hbytes d57) hl)⟩
end New4
namespace New1
def yN : MethodName := ⟨"java/lang/String", "<init>", "([C)V"⟩
abbrev yB : ByteArray := jdk_42_method_3_code
theorem d0 : decode yB 0 = .ok (.aload_n 0, 1) := by decide +kernel
theorem d1 : decode yB 1 = .ok (.aload_n 1, 1) := by decide +kernel
theorem d2 : decode yB 2 = .ok (.iconst 0, 1) := by decide +kernel
theorem d3 : decode yB 3 = .ok (.aload_n 1, 1) := by decide +kernel
theorem d4 : decode yB 4 = .ok (.arraylength, 1) := by decide +kernel
theorem d5 : decode yB 5 = .ok (.aconst_null, 1) := by decide +kernel
theorem d6 : decode yB 6 = .ok (.invokespecial 27, 3) := by decide +kernel
theorem d9 : decode yB 9 = .ok (.return_, 1) := by decide +kernel
def site : List Cond := [New4.tab] ++ initW "java/lang/String" 27 New4.yN
def tab : Cond := tabOf yN yB 2 none site
def P (a : Addr) (D : Cell) (fV fC : Field) (b : Addr) (A : Cell) (z : Int32) (args : Array Value) (s : State) : Prop := args = #[.ref a, .ref b] ∧ Blank "java/lang/String" a D s ∧ Found "java/lang/String" "value" "[B" fV s ∧ Found "java/lang/String" "coder" "B" fC s ∧ Ch b A s ∧ StaticIs s "java/lang/String" "COMPACT_STRINGS" "Z" (.int z) ∧ ¬ z = 0 ∧ 0 < A.slots.size ∧ A.slots.size ≤ 536870912 ∧ ∀ i, i < A.slots.size → ¬ 255 < cv A i
def E (a : Addr) (D : Cell) (fV fC : Field) (A : Cell) (r : Option Value) (s u : State) : Prop := Got a D fV fC A 0 A.slots.size r s u
/-- new String(chars), not empty, no char above 255: a Latin-1 String of their low bytes -/
theorem law (l : Launch) (a : Addr) (D : Cell) (fV fC : Field) (b : Addr) (A : Cell) (z : Int32) : Law l yN 2 1 3 52 yB 2 none site (P a D fV fC b A z) (E a D fV fC A) [⟨a, fC.slot⟩, ⟨a, fV.slot⟩] 1 A.slots.size := by
  refine Law.of_walk (plainFor_of_name (by decide +kernel)) (by decide +kernel) (by decide +kernel) (by decide) (fun _ _ h => by rw [h.1]; rfl) (fun _ U U' hal hh h => ⟨h.1, h.2.1.mv hal hh, h.2.2.1.al hal, h.2.2.2.1.al hal, h.2.2.2.2.1.mv hal hh, h.2.2.2.2.2.1.there hal hh, h.2.2.2.2.2.2⟩) (fun r U U' V V' h1 hal h2 h => Got.mv r U U' V V' h1 hal h2 h) ?_
  intro p e s m args below meth c s₁ X0 hexec hbytes hml hret hlk hnm hown hh0 W hP
  obtain ⟨rfl, hB, f1, f2, hA, s1, hz, l0, l2, hp⟩ := hP
  have c1 : Steps p.tables e below (s₁.setTop (entryFrame m #[.ref a, .ref b] 2)) (s₁.setTop (mkF m 0 #[.val (.ref a), .val (.ref b)] [])) := entry rfl
  have c2 : Steps p.tables e below (s₁.setTop (entryFrame m #[.ref a, .ref b] 2)) (s₁.setTop (mkF m 6 #[.val (.ref a), .val (.ref b)] [.null, .int (Int32.ofNat A.slots.size), .int 0, .ref b, .ref a])) := c1.trans (by
    refine XS.aloadN X0.here hexec rfl (hb hbytes d0) rfl rfl ?_
    refine XS.aloadN X0.here hexec rfl (hb hbytes d1) rfl rfl ?_
    refine iconstV X0.here hexec rfl 0 (hb hbytes d2) (by decide) ?_
    refine XS.aloadN X0.here hexec rfl (hb hbytes d3) rfl rfl ?_
    refine X0.alen hexec (hA.1.mv X0.warmed.alike hh0) rfl rfl (hb hbytes d4) ?_
    refine XS.aconstNull X0.here hexec rfl (hb hbytes d5) ?_
    exact Steps.refl _)
  obtain ⟨v3, T3, X3, E3, g3⟩ := X0.callN hexec (New4.law l a D fV fC b A z 0 A.slots.size) rfl hown (wks W (initW "java/lang/String" 27 New4.yN)) (W New4.tab (by simp only [site, List.mem_cons, List.mem_append, true_or, or_true])) (W := 0) (Nat.le_of_ble_eq_true rfl) (Nat.le_of_ble_eq_true rfl) (Nat.le_refl _) (by show 0 + A.slots.size ≤ A.slots.size; omega) (g := (mkF m 6 #[.val (.ref a), .val (.ref b)] [.null, .int (Int32.ofNat A.slots.size), .int (Int32.ofNat 0), .ref b, .ref a])) rfl (by rw [hml]; rfl) c2 (argsL := [.ref b, .int (Int32.ofNat 0), .int (Int32.ofNat A.slots.size), .null]) (rest := []) rfl rfl (by show 2 * 0 + 0 ≤ _; decide) (hb hbytes d6) (⟨rfl, hB.mv X0.warmed.alike hh0, f1.al X0.warmed.alike, f2.al X0.warmed.alike, hA.mv X0.warmed.alike hh0, s1.there X0.warmed.alike hh0, hz, l0, by omega, l2, fun i hi => by rw [Nat.zero_add]; exact hp i hi⟩)
  have e0 := Got.mv _ s₁ s _ _ hh0.symm (Vm.Alike.refl _) rfl E3
  obtain rfl := e0.1
  have c4 : Steps p.tables e below (s₁.setTop (entryFrame m #[.ref a, .ref b] 2)) (T3.setTop (mkF m 9 #[.val (.ref a), .val (.ref b)] [])) := g3
  exact ⟨T3, none, _, _, _, X3, by simp, rfl, by omega, (fun _ => rfl), e0, fun fs hl => c4.trans (X3.returnOut hexec hret (hb hbytes d9) hl)⟩
theorem pays {l : Launch} {R : Room} {p : Program} {e : Env} {below : List Frame} {s : State} {sargs : Array Value} {len W : Nat} (a : Addr) (D : Cell) (fV fC : Field) (b : Addr) (A : Cell) (z : Int32) (htab : tab.before sargs s = true) (hfr : 4 ≤ R.frames) (hlo : W + 65 ≤ R.locals) :
    Back l R p e below s sargs yN len W (fun A₁ a₁ => A₁.cells + 1 ≤ R.cells ∧ A₁.slots + A.slots.size ≤ R.slots ∧ P a D fV fC b A z a₁ A₁.U) (fun A₁ _ v₁ B₁ => E a D fV fC A v₁ A₁.U B₁.U ∧ B₁.locs = A₁.locs ++ [⟨a, fC.slot⟩, ⟨a, fV.slot⟩] ∧ B₁.cells = A₁.cells + 1 ∧ B₁.slots = A₁.slots + A.slots.size) :=
  (law l a D fV fC b A z).pays htab hfr (by omega)
end New1
end StrChars
namespace StrChars.Road
open Jvm Sem ClassFile Op Lib Jvm.Stand Jvm.Free Jvm.Free.XT
open Jvm.Lib.Cold (StaticIs)
abbrev ST : String := "java/lang/String"
/-- every table word that New1's law asks, flat -/
abbrev words : List Jvm.Cond := [.code New1.yN New1.yB 2 none, .initialized ST, .methodLink ST 27 New4.yN, .instanceMethod New4.yN,
  .code New4.yN New4.yB 6 none, .fieldLink ST 38 ST "COMPACT_STRINGS" "Z", .laysFinal ST ST "value" "[B", .fieldLink ST 9 ST "value" "[B", .laysFinal ST ST "coder" "B", .fieldLink ST 15 ST "coder" "B",
  .methodLink ST 1 Lib.objectInit, .instanceMethod Lib.objectInit, .code Lib.objectInit ⟨#[0xb1]⟩ 1 none, .methodLink ST 177 Cmp3.yN, .static Cmp3.yN, .methodLink ST 47 CodL.yN, .static CodL.yN,
  .code Cmp3.yN Cmp3.yB 6 (some (.array .byte)), .initialized U16, .arrayClass .byte, .methodLink U16 115 Cmp5.yN, .static Cmp5.yN, .code Cmp5.yN Cmp5.yB 7 (some .int), .code CodL.yN CodL.yB 2 (some .byte)]
theorem tab_of {a : Array Value} {s : State} (h : ∀ w ∈ words, w.before a s = true) : New1.tab.before a s = true := by
  have h5 : Cmp5.tab.before a s = true := unparts (wk h (.code Cmp5.yN Cmp5.yB 7 (some .int))) (wks h (.initialized Cmp5.yN.cls :: Cmp5.site))
  have hc : CodL.tab.before a s = true := unparts (wk h (.code CodL.yN CodL.yB 2 (some .byte))) (wks h (.initialized CodL.yN.cls :: CodL.site))
  have q5 : ∀ w ∈ Cmp5.tab :: words, w.before a s = true := fun w hw => (List.mem_cons.mp hw).elim (fun e => e ▸ h5) (h w)
  have h3 : Cmp3.tab.before a s = true := unparts (wk q5 (.code Cmp3.yN Cmp3.yB 6 (some (.array .byte)))) (wks q5 (.initialized Cmp3.yN.cls :: Cmp3.site))
  have q3 : ∀ w ∈ Cmp3.tab :: CodL.tab :: words, w.before a s = true := fun w hw => (List.mem_cons.mp hw).elim (fun e => e ▸ h3) fun hw => (List.mem_cons.mp hw).elim (fun e => e ▸ hc) (h w)
  have h4 : New4.tab.before a s = true := unparts (wk q3 (.code New4.yN New4.yB 6 none)) (wks q3 (.initialized New4.yN.cls :: New4.site))
  have q4 : ∀ w ∈ New4.tab :: words, w.before a s = true := fun w hw => (List.mem_cons.mp hw).elim (fun e => e ▸ h4) (h w)
  exact unparts (wk q4 (.code New1.yN New1.yB 2 none)) (wks q4 (.initialized New1.yN.cls :: New1.site))
/-- the words ride from the start Z to the walk's own state -/
theorem moved {Z s : State} {a0 args : Array Value} (hZ : Z.Warmed39 s.vm) (hw : ∀ d ∈ words, d.before a0 Z = true) : ∀ d ∈ words, d.before args s = true := fun d hd => by
  have q := hw d hd
  have t : ∀ d ∈ words, d = .arrayClass .byte ∨ (d.onTables && d.keepsFace) = true := by decide +kernel
  rcases t d hd with rfl | t
  · exact RoadKit.mvA hZ q
  · exact RoadKit.mv hZ q t
/-- WHAT COMES BACK, over the tables of the start Z: h the heap at the call, h' behind it -/
def Q (Z : State) (x : Addr) (A : Cell) (h : Heap) (v : Option Value) (h' : Heap) (L : List Loc) : Prop := v = none ∧ (∀ y ∈ L, y.base = x) ∧ RoadKit.Keep h h' [x] ∧ h'.size = h.size + 1 ∧ RoadKit.Exa Z h' x ST ∧ RoadKit.Fld Z h' x ST "value" "[B" (.ref h.size) ∧ RoadKit.Fld Z h' x ST "coder" "B" (.int 0) ∧
  (∃ V : Cell, RoadKit.Arr Z h' h.size V .byte ∧ V.vm = .none ∧ Z.vm.findClass "[B" = some V.cls ∧ V.slots.size = A.slots.size ∧ ∀ j, j < A.slots.size → V.slots[j]? = some (.int (lo8 (cv A j)))) ∧
  ∀ (O n d : String) (w : Value), RoadKit.Fld Z h x O n d w → RoadKit.slotOf Z O n d ≠ RoadKit.slotOf Z ST "value" "[B" → RoadKit.slotOf Z O n d ≠ RoadKit.slotOf Z ST "coder" "B" → RoadKit.Fld Z h' x O n d w
/-- **new String(chars) AT A CALL, IN THE ROAD'S FORM**: for specialBack behind newO: x the fresh String, b the char[] with the cell A -/
theorem back {p : Program} {l : Launch} {e : Env} {R : Room} {s : State} {args : Array Value} {below : List Frame} {len W : Nat} {Z : State} {a0 : Array Value} {h : Heap} (hZ : Z.Warmed39 s.vm) (hw : ∀ d ∈ words, d.before a0 Z = true) {kI : Nat} (wi : (Jvm.Cond.instantiable ST kI).before a0 Z = true)
    {x b : Addr} {A : Cell} {z : Int32} {v0 c0 : Value} (E : RoadKit.Exa Z h x ST) (V : RoadKit.Fld Z h x ST "value" "[B" v0) (C : RoadKit.Fld Z h x ST "coder" "B" c0) (K : RoadKit.Arr Z h b A .char) (hty : Typed .char A) (S : RoadKit.Sta Z h ST "COMPACT_STRINGS" "Z" (.int z)) (hz : ¬ z = 0)
    (l0 : 0 < A.slots.size) (l2 : A.slots.size ≤ 536870912) (hp : ∀ i, i < A.slots.size → ¬ 255 < cv A i) (hfr : 4 ≤ R.frames) (hlo : W + 65 ≤ R.locals) :
    Back l R p e below s args New1.yN len W (fun P a => a = #[.ref x, .ref b] ∧ P.U.heap = h ∧ P.cells + 1 ≤ R.cells ∧ P.slots + A.slots.size ≤ R.slots)
      (fun P _ v B => ∃ L, Q Z x A h v B.U.heap L ∧ B.locs = P.locs ++ L ∧ B.cells = P.cells + 1 ∧ B.slots = P.slots + A.slots.size) := by
  intro m meth c P g ig mk a X hg hsize hdg hW hn hp'
  obtain ⟨rfl, rfl, r1, r2⟩ := hp'
  have al : Z.vm.Alike P.U.vm := hZ.alike.trans X.warmed.alike
  obtain ⟨D, cfV, kV, iV, fV, hD, gV, stV, knV, obV, asV, slV⟩ := id V
  obtain ⟨D', cfC, kC, iC, fC, hD', gC, stC, -, -, asC, slC⟩ := id C
  cases hD.symm.trans hD'
  obtain ⟨D2, kD, e1, e2, e3, e4, e5⟩ := id E
  cases hD.symm.trans e1
  obtain ⟨c2, k2, i1, i2, i3, -⟩ := Cond.instantiable_spec wi
  cases e2.symm.trans i1
  cases e3.symm.trans i2
  obtain ⟨kU, u1, u2⟩ := al.2.2 _ _ e3
  have hB : Blank ST x D P.U := ⟨hD, ⟨knV, fun q hq => by rw [hq] at obV; cases obV⟩, by rw [al.findClass]; exact e2, kU, u1, by rw [u2]; exact i3, by rw [u2]; exact e5 i3⟩
  have F1 : Found ST "value" "[B" fV P.U := ⟨SBG.found_only al ⟨cfV, kV, iV, gV⟩, stV⟩
  have F2 : Found ST "coder" "B" fC P.U := ⟨SBG.found_only al ⟨cfC, kC, iC, gC⟩, stC⟩
  have hA : Ch b A P.U := ⟨⟨K.1, State.isArrayOf_alike al K.2.1, K.2.2, by omega⟩, hty⟩
  have hS : StaticIs P.U ST "COMPACT_STRINGS" "Z" (.int z) := by
    obtain ⟨cfS, iS, kS, fS, st, cS, t1, t2, t3, t4, t5, t6, t7⟩ := S
    exact StaticIs.there (s := { Z with heap := P.U.heap }) ⟨cfS, iS, kS, fS, st, cS, t1, t2, t3, t4, t5, (fun q => by rw [q] at t6; cases t6), t7⟩ al rfl
  obtain ⟨v, B, X', ⟨⟨hv, E', V', q1, q2, q3, q4, q5, q6, q7, q8, q9, q10, q11⟩, hl, hc, hs⟩, st⟩ := New1.pays x D fV fC b A z (tab_of (moved hZ hw)) hfr hlo m meth c P g ig mk _ X hg hsize hdg hW hn ⟨r1, r2, rfl, hB, F1, F2, hA, hS, hz, l0, l2, hp⟩
  have al' : Z.vm.Alike B.U.vm := hZ.alike.trans X'.warmed.alike
  have hsz : E'.slots.size = D.slots.size := by
    obtain ⟨-, -, -, kB, w1, w2, w3⟩ := q1
    obtain ⟨kB', y1, y2⟩ := al'.2.2 _ _ e3
    rw [q2.2.1] at w1
    cases w1.symm.trans y1
    rw [w3, e5 i3, y2]
  refine ⟨v, B, X', ⟨_, ⟨hv, ?_, ⟨by omega, fun y cy hy hn' => q10 y cy (by simpa using hn') hy, fun y cy hy => ?_⟩, q11, ⟨E', _, q1.1, by rw [q2.2.1]; exact e2, by rw [q2.2.1]; exact e3, by rw [q2.1]; exact obV, fun _ => by rw [hsz]; exact e5 i3⟩,
    ⟨E', cfV, kV, iV, fV, q1.1, gV, stV, by rw [q2.1]; exact knV, by rw [q2.1]; exact obV, by rw [q2.2.1]; exact asV, q3⟩, ⟨E', cfC, kC, iC, fC, q1.1, gC, stC, by rw [q2.1]; exact knV, by rw [q2.1]; exact obV, by rw [q2.2.1]; exact asC, q4⟩,
    ⟨V', ⟨q5.1, State.isArrayOf_alike al'.symm q5.2.1, q5.2.2.1⟩, q6, by rw [← al'.findClass]; exact q7, q8, fun j hj => by have := q9 j hj; rwa [Nat.zero_add] at this⟩, fun O n d w F n1 n2 => ?_⟩, hl, hc, hs⟩, st⟩
  · intro y hy
    simp only [List.mem_cons, List.not_mem_nil, or_false] at hy
    rcases hy with rfl | rfl <;> rfl
  · by_cases q : y = x
    · subst q
      cases hD.symm.trans hy
      exact ⟨E', q1.1, q2.2.1, q2.1, hsz⟩
    · exact ⟨cy, q10 y cy q hy, rfl, rfl, rfl⟩
  · obtain ⟨D3, cf, k, i, f, g1, g2, g3, g4, g5, g6, g7⟩ := F
    cases hD.symm.trans g1
    simp only [RoadKit.slotOf, g2, gV, gC, Option.map_some, Option.getD_some] at n1 n2
    exact ⟨E', cf, k, i, f, q1.1, g2, g3, by rw [q2.1]; exact g4, by rw [q2.1]; exact g5, by rw [q2.2.1]; exact g6, by rw [q2.2.2 f.slot (by simp [n1, n2])]; exact g7⟩
end StrChars.Road
namespace StrChars.Road
open Jvm Sem ClassFile Op Lib Jvm.Stand Jvm.Free Jvm.Free.XT
/-- WHAT COMES BACK, the byte[] as a list of values -/
def QA (Z : State) (x : Addr) (zn : Int32) (cs : List Int32) (h : Heap) (v : Option Value) (h' : Heap) (L : List Loc) : Prop := v = none ∧ (∀ y ∈ L, y.base = x) ∧ RoadKit.Keep h h' [x] ∧ h'.size = h.size + 1 ∧ RoadKit.Exa Z h' x ST ∧ RoadKit.Fld Z h' x ST "value" "[B" (.ref h.size) ∧ RoadKit.Fld Z h' x ST "coder" "B" (.int 0) ∧
  (∃ kb, Z.vm.findClass "[B" = some kb ∧ RoadKit.Arv Z h' h.size kb .byte zn (cs.map fun c => .int (lo8 c)) (.int 0)) ∧
  ∀ (O n d : String) (w : Value), RoadKit.Fld Z h x O n d w → RoadKit.slotOf Z O n d ≠ RoadKit.slotOf Z ST "value" "[B" → RoadKit.slotOf Z O n d ≠ RoadKit.slotOf Z ST "coder" "B" → RoadKit.Fld Z h' x O n d w
/-- **new String(chars) AT A CALL, THE ARRAYS AS LISTS**: the char[] at b holds cs, not empty, no char above 255 -/
theorem backArv {p : Program} {l : Launch} {e : Env} {R : Room} {s : State} {args : Array Value} {below : List Frame} {len W : Nat} {Z : State} {a0 : Array Value} {h : Heap} (hZ : Z.Warmed39 s.vm) (hw : ∀ d ∈ words, d.before a0 Z = true) {kI : Nat} (wi : (Jvm.Cond.instantiable ST kI).before a0 Z = true)
    {x b : Addr} {k : ClassId} {zn z : Int32} {cs : List Int32} {dv v0 c0 : Value} (E : RoadKit.Exa Z h x ST) (V : RoadKit.Fld Z h x ST "value" "[B" v0) (C : RoadKit.Fld Z h x ST "coder" "B" c0) (K : RoadKit.Arv Z h b k .char zn (cs.map Value.int) dv) (S : RoadKit.Sta Z h ST "COMPACT_STRINGS" "Z" (.int z)) (hz : ¬ z = 0)
    (hlen : zn.toNatClampNeg = cs.length) (h0 : 0 < cs.length) (hbig : cs.length ≤ 536870912) (hall : ∀ c ∈ cs, ¬ 255 < c) (hfr : 4 ≤ R.frames) (hlo : W + 65 ≤ R.locals) :
    Back l R p e below s args New1.yN len W (fun P a => a = #[.ref x, .ref b] ∧ P.U.heap = h ∧ P.cells + 1 ≤ R.cells ∧ P.slots + cs.length ≤ R.slots)
      (fun P _ v B => ∃ L, QA Z x zn cs h v B.U.heap L ∧ B.locs = P.locs ++ L ∧ B.cells = P.cells + 1 ∧ B.slots = P.slots + cs.length) := by
  obtain ⟨A, K1, K2, K3, K4, K5, K6⟩ := K
  have e : A.slots.size = cs.length := K3.trans hlen
  have hat : ∀ (i : Nat) (hi : i < cs.length), A.slots[i]? = some (.int cs[i]) := fun i hi => by rw [K5 i (by omega)]; simp [List.getD_eq_getElem?_getD, hi]
  have hcv : ∀ (i : Nat) (hi : i < cs.length), cv A i = cs[i] := fun i hi => by unfold cv; rw [hat i hi]
  have hty : Typed .char A := fun i v hv => by
    have hi : i < A.slots.size := (Array.getElem?_eq_some_iff.mp hv).1
    have q := K5 i hi
    rw [hv] at q
    rw [Option.some.inj q]
    exact K6 i hi
  refine Back.mono (back hZ hw wi E V C K1 hty S hz (by omega) (by omega) (fun i hi => by rw [hcv i (by omega)]; exact hall _ (List.getElem_mem _)) hfr hlo) (fun P a hp => ⟨hp.1, hp.2.1, hp.2.2.1, by rw [e]; exact hp.2.2.2⟩) (fun P a v B hp hq => ?_)
  obtain ⟨L, ⟨q1, q2, q3, q4, q5, q6, q7, ⟨V', v1, v2, v3, v4, v5⟩, q9⟩, hl, hc, hs⟩ := hq
  refine ⟨L, ⟨q1, q2, q3, q4, q5, q6, q7, ⟨V'.cls, v3, V', v1, rfl, by rw [v4, e, hlen], K4, fun i hi => ?_, fun i hi => ?_⟩, q9⟩, hl, hc, by rw [hs, e]⟩
  · have hi' : i < cs.length := by omega
    rw [v5 i (by omega), hcv i hi']; simp [List.getD_eq_getElem?_getD, hi']
  · have hi' : i < cs.length := by omega
    simp only [List.getD_eq_getElem?_getD, List.getElem?_map, List.getElem?_eq_getElem hi', Option.map_some, Option.getD_some]
    exact fits_lo8 _
end StrChars.Road
namespace StrChars.Road
open Jvm Sem ClassFile Op Lib Jvm.Stand Jvm.Free Jvm.Free.XT
/-- WHAT COMES BACK, in the writer's own shape -/
def QV (Z : State) (x : Addr) (N : Int32) (bs : List Int32) (h : Heap) (n0 : Nat) (v : Option Value) (h' : Heap) (L : List Loc) : Prop := v = none ∧ RoadKit.Fr n0 L ∧ RoadKit.Keep h h' [x] ∧ RoadKit.Exa Z h' x ST ∧ RoadKit.Fld Z h' x ST "coder" "B" (.int 0) ∧
  ∃ (t : Addr) (kb : ClassId), n0 ≤ t ∧ h.size ≤ t ∧ ¬ t = x ∧ RoadKit.Fld Z h' x ST "value" "[B" (.ref t) ∧ RoadKit.Arv Z h' t kb .byte N (bs.map Value.int) (.int 0)
/-- **new String(chars) AT A CALL, FOR THE WRITER**: a char[] of n known ints, each 0 to 255 -/
theorem backV {p : Program} {l : Launch} {e : Env} {R : Room} {s : State} {args : Array Value} {below : List Frame} {len W : Nat} {Z : State} {a0 : Array Value} {h : Heap} (hZ : Z.Warmed39 s.vm) (hw : ∀ d ∈ words, d.before a0 Z = true) {kI : Nat} (wi : (Jvm.Cond.instantiable ST kI).before a0 Z = true)
    {x b : Addr} {kC : ClassId} {cs bs : List Int32} {d v0 c0 : Value} {z N : Int32} {n n0 : Nat} (hx0 : n0 ≤ x) (hh0 : n0 ≤ h.size) (E : RoadKit.Exa Z h x ST) (V : RoadKit.Fld Z h x ST "value" "[B" v0) (C : RoadKit.Fld Z h x ST "coder" "B" c0) (K : RoadKit.Arv Z h b kC .char N (cs.map Value.int) d) (S : RoadKit.Sta Z h ST "COMPACT_STRINGS" "Z" (.int z)) (hz : ¬ z = 0)
    (hn : cs.length = n) (hN : N = Int32.ofNat n) (l0 : 0 < n) (l2 : n ≤ 4000) (hp : ∀ c ∈ cs, ¬ c < 0 ∧ ¬ (255 : Int32) < c) (hb : bs = cs.map (fun c => c.toInt8.toInt32)) (hfr : 4 ≤ R.frames) (hlo : W + 65 ≤ R.locals) :
    Back l R p e below s args (⟨"java/lang/String", "<init>", "([C)V"⟩ : MethodName) len W (fun P a => a = #[.ref x, .ref b] ∧ P.U.heap = h ∧ P.cells + 1 ≤ R.cells ∧ P.slots + n ≤ R.slots)
      (fun P _ v B => ∃ L, QV Z x N bs h n0 v B.U.heap L ∧ B.locs = P.locs ++ L ∧ B.cells = P.cells + 1 ∧ B.slots = P.slots + n) := by
  subst hn hN hb
  refine Back.mono (backArv hZ hw wi E V C K S hz (n32 (by omega)) l0 (by omega) (fun c hc => (hp c hc).2) hfr hlo) (fun P a hp => hp) (fun P a v B hp hq => ?_)
  obtain ⟨L, ⟨q1, q2, q3, q4, q5, q6, q7, ⟨kb, v1, v2⟩, q9⟩, hl, hc, hs⟩ := hq
  exact ⟨L, ⟨q1, fun y hy => by rw [q2 y hy]; exact hx0, q3, q5, q7, h.size, kb, hh0, Nat.le_refl _, Nat.ne_of_gt E.lt, q6, by rw [List.map_map]; exact v2⟩, hl, hc, hs⟩
end StrChars.Road
end Jvm.Pilot.@@N@@
namespace Jvm.Pilot.@@N@@
open Jvm Jvm.ClassFile Sem Op Lib Jvm.Free Jvm.Stand Jvm.LawKit Jvm.RoadKit Bundle Jvm.Own Jvm.Pilot.@@N@@.Jvm.D
theorem pnST : plainFor (⟨"java/lang/String", n, d⟩ : MethodName) = true := plainFor_of_name (by first | (simp [plainName, overriddenIn]; done) | decide +kernel)
abbrev i4N : MethodName := ⟨"java/lang/String", "<init>", "([CIILjava/lang/Void;)V"⟩
abbrev i1N : MethodName := ⟨"java/lang/String", "<init>", "([C)V"⟩
abbrev eqN : MethodName := ⟨"java/lang/String", "equals", "(Ljava/lang/Object;)Z"⟩
theorem pd_i4 : parseMethodDescriptor "([CIILjava/lang/Void;)V" = some ⟨[.array .char, .int, .int, .object "java/lang/Void"], none⟩ := by decide +kernel
theorem pd_i1 : parseMethodDescriptor "([C)V" = some ⟨[.array .char], none⟩ := by decide +kernel
theorem pd_eq : parseMethodDescriptor "(Ljava/lang/Object;)Z" = some ⟨[.object "java/lang/Object"], some .boolean⟩ := by decide +kernel
/-- the words of the empty String's road -/
abbrev wE : List Jvm.Cond := [.methodLink sST 1 Lib.objectInit, .instanceMethod Lib.objectInit, .code Lib.objectInit ⟨#[0xb1]⟩ 1 none, .stringLink sST 7 "", .fieldLink sST 9 sST "value" "[B", .fieldLink sST 15 sST "coder" "B",
  .laysFinal sST sST "value" "[B", .laysFinal sST sST "coder" "B", .instantiable sST 4, .initialized sST, .methodLink sST 27 i4N, .instanceMethod i4N, .code i4N jdk_42_method_149_code 6 none, .code i1N jdk_42_method_3_code 2 none] ++ Bundle.stringAtoms
theorem ef4 (m : MethodId) (a b : Addr) : entryFrame m #[.ref a, .ref b, .int 0, .int 0, .null] 6 = fr m 0 [.val (.ref a), .val (.ref b), .val (.int 0), .val (.int 0), .val .null, .unset] [] := by first | (simp [entryFrame, mkF, argsToLocals, Value.category]; done) | rfl
theorem ef1 (m : MethodId) (a b : Addr) : entryFrame m #[.ref a, .ref b] 2 = fr m 0 [.val (.ref a), .val (.ref b)] [] := by first | (simp [entryFrame, mkF, argsToLocals, Value.category]; done) | rfl
set_option maxRecDepth 65536 in
set_option maxHeartbeats 4000000 in
theorem new4e (l : Launch) {Z : State} {a0 : Array Value} {n0 : Nat} {h : Heap} {a b : Addr} (hw : ∀ d ∈ wE, d.before a0 Z = true) (hEL : EW Z a0 consts_1) (O : Old Z n0 h) (B : Blk Z a0 n0 h a sST) :
    Con l Z consts_1 n0 [] i4N jdk_42_method_149_code 6 none ({ frames := 1, cells := 2, slots := 4, locals := 12 } : Room) #[.ref a, .ref b, .int 0, .int 0, .null] h (Ret0 fun h' => Keep h h' [a] ∧ Str Z h' a []) := by
  have wV := hw (.fieldLink sST 9 sST "value" "[B") (List.mem_of_getElem? (i := 4) rfl)
  have wC := hw (.fieldLink sST 15 sST "coder" "B") (List.mem_of_getElem? (i := 5) rfl)
  have wlV := hw (.laysFinal sST sST "value" "[B") (List.mem_of_getElem? (i := 6) rfl)
  have wlC := hw (.laysFinal sST sST "coder" "B") (List.mem_of_getElem? (i := 7) rfl)
  have wi := hw (.instantiable sST 4) (List.mem_of_getElem? (i := 8) rfl)
  have wL := hw (.stringLink sST 7 "") (List.mem_of_getElem? (i := 3) rfl)
  have wS : ∀ a ∈ Bundle.stringAtoms, a.before a0 Z = true := fun d hd => hw d (List.mem_append_right _ hd)
  refine Con.intro pnST O hEL ?_
  intro p e s m below meth c T C hs P
  refine Run.cast (ef4 m a b) ?_
  refine blk C P [.aload_n 0] (by decide +kernel) rfl ?_
  refine s_initO C P (idx := 1) (by decide +kernel) (hw _ (List.mem_of_getElem? (i := 0) rfl)) (hw _ (List.mem_of_getElem? (i := 1) rfl)) (hw _ (List.mem_of_getElem? (i := 2) rfl)) rfl (by decide) (W := 0) (Nat.le_of_ble_eq_true rfl) (by decide) (pc' := 4) rfl (fun T1 P1 => ?_)
  refine blk C P1 [.iload_n 3] (by decide +kernel) rfl ?_
  refine b_ifN C P1 (cd := .ne) (o := 22) (by decide +kernel) (pc' := 8) rfl rfl ?_
  refine blk C P1 [.aload_n 0] (by decide +kernel) (pc' := 9) rfl ?_
  obtain ⟨vm0, k0, locs, X, eT, hS, hk, hC, hF, hO, hZ, hown⟩ := P1.opened C
  have hb' := C.2.2.2.1
  obtain ⟨q, T2, h2, k2, bb, kb, X2, e2, E2, hS2, hk2, hZ2, hown2, r1, r2, r3, r4, r5, r6, hC2, hLit, hne, st2⟩ := ldcCH X C.1 hZ hown wL wS eT hS hk hEL (by decide +kernel : ("java/lang/String", 7) ∈ consts_1) hC.1 (vs := []) (z := 0) ⟨by decide, by decide⟩ (by decide) (by decide) (g := fr m 9 [.val (.ref a), .val (.ref b), .val (.int 0), .val (.int 0), .val .null, .unset] [.ref a]) rfl (hb hb' (pc := 9) (by decide +kernel)) (n := 0) (by decide) (by decide) (by decide) (by decide)
  refine Run.go st2 ?_
  have B2 := B.ext E2
  have Fv : Fld Z h2 a sST "value" "[B" .null := B2.2.2 (Or.inr wlV) (ty := .array .byte) (by decide)
  have Fc : Fld Z h2 a sST "coder" "B" (.int 0) := B2.2.2 (Or.inr wlC) (ty := .byte) (by decide)
  have nqa : q ≠ a := Fld.ne r3 Fv (by simp)
  have nba : bb ≠ a := (B2.2.1.neArv r4 wi).symm
  have sne : RoadKit.slotOf Z sST "coder" "B" ≠ RoadKit.slotOf Z sST "value" "[B" := slot_ne (C := sST) (Or.inr wlC) (Or.inr wlV) (by decide) (t := .byte) (by decide) (t' := .array .byte) (by decide)
  obtain ⟨T3, X3, e3, st3⟩ := getF X2 C.1 hZ2 hown2 (host := "") (Or.inl wV) Via.refl e2 r3 (g := fr m 11 [.val (.ref a), .val (.ref b), .val (.int 0), .val (.int 0), .val .null, .unset] [.ref q, .ref a]) rfl rfl (hb hb' (pc := 11) (by decide +kernel))
  refine Run.go st3 ?_
  obtain ⟨T4, h4, X4, e4, W4, st4⟩ := putF X3 C.1 hZ2 hown2 (host := "") (Or.inl wV) Via.refl e3 Fv B2.2.1 (Or.inr ⟨wlV, rfl, C.2.2.2.2.2.2.1⟩) wi (ty := .array .byte) (by decide) rfl rfl (v := .ref bb) (g := fr m 14 [.val (.ref a), .val (.ref b), .val (.int 0), .val (.int 0), .val .null, .unset] [.ref bb, .ref a]) rfl rfl (hb hb' (pc := 14) (by decide +kernel))
  refine Run.go st4 ?_
  refine Run.go (fun t z => XS.aloadN X4.here C.1 (k := 0) rfl (hb hb' (pc := 17) (by decide +kernel)) ((lget_eq _ _).trans rfl) rfl z) ?_
  refine Run.go (ldcAgain X4 C.1 hZ2 hown2 wL hLit (g := fr m 18 [.val (.ref a), .val (.ref b), .val (.int 0), .val (.int 0), .val .null, .unset] [.ref a]) rfl (hb hb' (pc := 18) (by decide +kernel))) ?_
  have Gc : Fld Z h4 q sST "coder" "B" (.int 0) := r2.other W4 (Or.inl nqa)
  obtain ⟨T5, X5, e5, st5⟩ := getF X4 C.1 hZ2 hown2 (host := "") (Or.inl wC) Via.refl e4 Gc (g := fr m 20 [.val (.ref a), .val (.ref b), .val (.int 0), .val (.int 0), .val .null, .unset] [.ref q, .ref a]) rfl rfl (hb hb' (pc := 20) (by decide +kernel))
  refine Run.go st5 ?_
  have Fc4 : Fld Z h4 a sST "coder" "B" (.int 0) := Fc.other W4 (Or.inr sne)
  have A4 : Exa Z h4 a sST := B2.2.1.wr W4
  obtain ⟨T6, h6, X6, e6, W6, st6⟩ := putF X5 C.1 hZ2 hown2 (host := "") (Or.inl wC) Via.refl e5 Fc4 A4 (Or.inr ⟨wlC, rfl, C.2.2.2.2.2.2.1⟩) wi (ty := .byte) (by decide) rfl rfl (v := .int 0) (g := fr m 23 [.val (.ref a), .val (.ref b), .val (.int 0), .val (.int 0), .val .null, .unset] [.int 0, .ref a]) rfl rfl (hb hb' (pc := 23) (by decide +kernel))
  refine Run.go st6 ?_
  have S2 : Safe Z consts_1 T2.vm h2 a := safe_blank hZ2.alike B2.2.1 Fv
  have S4 : Safe Z consts_1 T2.vm h4 a := Safe.wr W4 S2 hC2.1 S2
  have R4 := CHr.wr W4 S2 hC2.1
  have R6 := CHr.wr W6 S4 R4.1
  have P6 : Pos Z consts_1 n0 p l e ({ frames := 1, cells := 2, slots := 4, locals := 12 } : Room) s m #[.ref a, .ref b, .int 0, .int 0, .null] below meth c T6 h6 (0 + 2) (0 + (0 + 4)) :=
    ⟨T2.vm, k2, _, X6, e6, hS2, by rw [W6.size, W4.size]; exact hk2, hC.trans (hC2.trans (R4.trans R6)), Fr.snoc X6 (Fr.snoc X4 hF B.1) B.1, ((hO.ext E2).wr W4 B.1).wr W6 B.1⟩
  refine r_void C P6 (pc := 26) (by decide +kernel) (by decide) (by decide) ⟨rfl, ?_, ?_⟩
  · exact (((Keep.refl h [a]).ext E2).wr W4 (Or.inl (by simp))).wr W6 (Or.inl (by simp))
  · exact ⟨by decide, lat0, A4.wr W6, Fc4.same W6, bb, kb, (Fv.same W4).other W6 (Or.inr sne.symm), (r4.other W4 nba).other W6 nba⟩
set_option maxRecDepth 65536 in
set_option maxHeartbeats 4000000 in
theorem new1e (l : Launch) {Z : State} {a0 : Array Value} {n0 : Nat} {h : Heap} {a b : Addr} (hw : ∀ d ∈ wE, d.before a0 Z = true) (hEL : EW Z a0 consts_1) (O : Old Z n0 h) (B : Blk Z a0 n0 h a sST) (V : Chs Z n0 h b []) :
    Con l Z consts_1 n0 [] i1N jdk_42_method_3_code 2 none ({ frames := 2, cells := 2, slots := 4, locals := 30 } : Room) #[.ref a, .ref b] h (Ret0 fun h' => Keep h h' [a] ∧ Str Z h' a []) := by
  refine Con.intro pnST O hEL ?_
  intro p e s m below meth c T C hs P
  refine Run.cast (ef1 m a b) ?_
  refine blk C P [.aload_n 0, .aload_n 1, .iconst 0, .aload_n 1] (by decide +kernel) (pc' := 4) rfl ?_
  obtain ⟨-, -, kb, A⟩ := V
  refine s_alen C P (by decide +kernel) A (pc' := 5) rfl ?_
  refine blk C P [.aconst_null] (by decide +kernel) (pc' := 6) rfl ?_
  refine c_special C P (y := i4N) rfl (by decide +kernel) (hw _ (List.mem_of_getElem? (i := 10) rfl)) (hw _ (List.mem_of_getElem? (i := 11) rfl)) (hw _ (List.mem_of_getElem? (i := 9) rfl)) (hw _ (List.mem_of_getElem? (i := 12) rfl)) (by decide) [.ref b, .int 0, .int 0, .null] [] (new4e l hw hEL O B) (by decide) (W := 0) (by decide) pd_i4 rfl rfl rfl (Nat.le_of_ble_eq_true rfl) (by decide) (by decide) (pc' := 9) rfl (fun T1 h1 P1 q => ?_)
  exact r_void C P1 (by decide +kernel) (by decide) (by decide) ⟨rfl, q⟩
section Use
variable {Z : State} {a0 : Array Value} {n0 : Nat} {p : Program} {l : Launch} {e : Env} {R : Room} {s : State} {m : MethodId} {args : Array Value} {below : List Frame} {meth : Method} {c : Code} {own name : String} {bytes : ByteArray} {maxL : Nat} {ret : Option FieldType}
  {F : State → Outcome → Prop} {T : State} {h : Heap} {k n : Nat} {pc pc' : Nat} {L : List Slot} {S : List Value} {W idx : Nat}
set_option maxRecDepth 65536 in
set_option maxHeartbeats 4000000 in
/-- new String(char[]), the empty array too -/
theorem c_newStr (C : Ctx Z a0 consts_1 p s m meth c own name bytes maxL ret) (P : Pos Z consts_1 n0 p l e R s m args below meth c T h k n) (hw : ∀ d ∈ tables_1, d.before a0 Z = true) {z : Int32} (Sz : Sta Z Z.heap sST "COMPACT_STRINGS" "Z" (.int z)) (hz : ¬ z = 0) {a b : Addr} {cs : List Int32} {rest : List Value} (hd : decode bytes pc = .ok (.invokespecial idx, 3)) (w1 : (Jvm.Cond.methodLink own idx i1N).before a0 Z = true) (w2 : (Jvm.Cond.instanceMethod i1N).before a0 Z = true)
    (B : Blk Z a0 n0 h a sST) (V : Chs Z n0 h b cs) (hcs : ∀ c ∈ cs, ¬ c < 0 ∧ ¬ (255 : Int32) < c) (hL : L.length = maxL) (hW : (rest.map fun v => v.category).sum ≤ W) (hfr : 4 ≤ R.frames) (hlo : W + 65 ≤ R.locals) (hc : k + 2 ≤ R.cells) (hl : n + (cs.length + 4) ≤ R.slots) (hq : pc + 3 = pc')
    (r : ∀ T' h', Pos Z consts_1 n0 p l e R s m args below meth c T' h' (k + 2) (n + (cs.length + 4)) → Keep h h' [a] → Str Z h' a cs → Run p.tables e below F T' (fr m pc' L rest)) : Run p.tables e below F T (fr m pc L (.ref b :: .ref a :: rest)) := by
  have hE : ∀ d ∈ wE, d.before a0 Z = true := fun d hd => hw d ((by decide +kernel : ∀ d ∈ wE, d ∈ tables_1) d hd)
  have wlV := hE (.laysFinal sST sST "value" "[B") (List.mem_of_getElem? (i := 6) rfl)
  have wlC := hE (.laysFinal sST sST "coder" "B") (List.mem_of_getElem? (i := 7) rfl)
  have wi := hE (.instantiable sST 4) (List.mem_of_getElem? (i := 8) rfl)
  have wz := hE (.initialized sST) (List.mem_of_getElem? (i := 9) rfl)
  have wc := hE (.code i1N jdk_42_method_3_code 2 none) (List.mem_of_getElem? (i := 13) rfl)
  cases cs with
  | nil =>
    refine c_special C P (y := i1N) (ybytes := jdk_42_method_3_code) (ymax := 2) (yrm := ({ frames := 2, cells := 2, slots := 4, locals := 30 } : Room)) rfl hd w1 w2 wz wc (by decide) [.ref b] rest (new1e l hE C.2.2.2.2.2.2.2.2 P.old B V) (by show 2 + 1 ≤ _; omega) (W := W) (by show W + (2 + 11) + 30 ≤ _; omega) pd_i1 rfl rfl hL hW hc (by simpa using hl) hq (fun T1 h1 P1 q => ?_)
    exact r T1 h1 (by simpa using P1) q.1 q.2
  | cons c0 cr =>
    subst hq
    have hws : ∀ d ∈ StrChars.Road.words, d.before a0 Z = true := fun d hd => hw d ((by decide +kernel : ∀ d ∈ StrChars.Road.words, d ∈ tables_1) d hd)
    have Fv : Fld Z h a sST "value" "[B" .null := B.2.2 (Or.inr wlV) (ty := .array .byte) (by decide)
    have Fc : Fld Z h a sST "coder" "B" (.int 0) := B.2.2 (Or.inr wlC) (ty := .byte) (by decide)
    obtain ⟨-, hlen, kb, A⟩ := V
    have Sh := Sz.ext P.z
    have hn0 := P.n0le
    obtain ⟨vm0, k0, locs, X, eT, hS, hk, hC, hF, hO, hZ, hown⟩ := P.opened C
    obtain ⟨_, _, ⟨U, Ls, kk, nn⟩, -, X', ⟨Lc, hQ, l1, l2, l3⟩, st⟩ := X.specialBack C.1 (y := i1N) rfl hown (mvT hZ w1) (mvT hZ w2) (mvT hZ wc) (by decide) (StrChars.Road.backV (W := W) hZ hws (kI := 4) wi (cs := c0 :: cr) (bs := (c0 :: cr).map (fun c => c.toInt8.toInt32)) (n := (c0 :: cr).length) B.1 hn0 B.2.1 Fv Fc A Sh hz rfl rfl (by simp) hlen hcs rfl hfr hlo) (g := fr m pc L (.ref b :: .ref a :: rest)) rfl (by rw [C.2.2.2.2.1]; exact hL) (Steps.refl _) (a := a) (argsL := [.ref b]) (rest := rest) (lenOf pd_i1 rfl) rfl (by show 2 * 0 + _ ≤ _; omega) (hb C.2.2.2.1 hd) (fun _ _ => ⟨rfl, eT, by show k + 1 ≤ _; omega, by show n + (c0 :: cr).length ≤ _; omega⟩)
    dsimp only [Pt.U, Pt.locs, Pt.cells, Pt.slots] at X' hQ l1 l2 l3 st
    subst l1 l2 l3
    obtain ⟨rfl, N, K, g1, g2, t, kb', g3, g4, g5, g6, g7⟩ := hQ
    have Sa : ∀ x ∈ [a], Safe Z consts_1 vm0 h x := fun x hx => by cases List.mem_singleton.mp hx; exact safe_blank hZ.alike B.2.1 Fv
    have hR := CHr.keep K Sa hC.1
    refine Run.after st (r U U.heap ⟨vm0, k0, _, X'.more (by omega) (by omega), rfl, hS, Nat.le_trans hk K.1, hC.trans hR, hF.app N, hO.keep K (allS B.1 all0)⟩ K ⟨hlen, hcs, g1, g2, t, kb', g6, g7⟩)
end Use
end Jvm.Pilot.@@N@@
namespace Jvm.Pilot.@@N@@
open Jvm Jvm.ClassFile Sem Op Lib Jvm.Free Jvm.Stand Jvm.LawKit Jvm.RoadKit Bundle Jvm.Own Jvm.Pilot.@@N@@.Jvm.D
abbrev vCE : MethodName := ⟨"java/lang/StringLatin1", "canEncode", "(C)Z"⟩
abbrev vTB : MethodName := ⟨"java/lang/StringLatin1", "toBytes", "(C)[B"⟩
abbrev vIB : MethodName := ⟨"java/lang/String", "<init>", "([BB)V"⟩
abbrev vOf : MethodName := ⟨"java/lang/String", "valueOf", "(C)Ljava/lang/String;"⟩
/-- the words of String.valueOf(char), the Latin-1 road -/
abbrev wV : List Jvm.Cond := [.methodLink sST 1 Lib.objectInit, .instanceMethod Lib.objectInit, .code Lib.objectInit ⟨#[0xb1]⟩ 1 none, .fieldLink sST 38 sST "COMPACT_STRINGS" "Z", .fieldLink sST 9 sST "value" "[B", .fieldLink sST 15 sST "coder" "B",
  .laysFinal sST sST "value" "[B", .laysFinal sST sST "coder" "B", .instantiable sST 4, .initialized sST, .methodLink sST 1015 vCE, .static vCE, .code vCE jdk_43_method_3_code 1 (some .boolean), .initialized "java/lang/StringLatin1",
  .methodLink sST 1018 vTB, .static vTB, .code vTB jdk_43_method_46_code 1 (some (.array .byte)), .arrayClass .byte, .methodLink sST 209 vIB, .instanceMethod vIB, .code vIB jdk_42_method_151_code 3 none, .classLink sST 10 sST]
theorem v_ce_ef (m : MethodId) (x : Int32) : entryFrame m #[.int x] 1 = fr m 0 [.val (.int x)] [] := by first | (simp [entryFrame, mkF, argsToLocals, Value.category]; done) | rfl
theorem v_ib_ef (m : MethodId) (a b : Addr) : entryFrame m #[.ref a, .ref b, .int 0] 3 = fr m 0 [.val (.ref a), .val (.ref b), .val (.int 0)] [] := by first | (simp [entryFrame, mkF, argsToLocals, Value.category]; done) | rfl
theorem v_ce (l : Launch) {Z : State} {a0 : Array Value} {n0 : Nat} {h : Heap} (hEL : EW Z a0 consts_1) (x : Int32) (O : Old Z n0 h) (hx : ¬ (255 : Int32) < x) :
    Con l Z consts_1 n0 [] vCE jdk_43_method_3_code 1 (some .boolean) ({ frames := 0, cells := 0, slots := 0, locals := 0 } : Room) #[.int x] h (Ret1 fun v h' => v = .int 1 ∧ h = h') := by
  refine Con.intro (plainFor_of_name (by first | (simp [plainName, overriddenIn]; done) | decide +kernel)) O hEL ?_
  intro p e s m below meth c T C hs P
  refine Run.cast (v_ce_ef m x) ?_
  refine blk C P [.iload_n 0, .sipush 255] (by decide +kernel) (pc' := 4) (L' := [.val (.int x)]) (S' := [.int 255, .int x]) rfl ?_
  refine b_cmN C P (cd := .gt) (o := 7) (by decide +kernel) (pc' := 7) rfl hx ?_
  refine blk C P [.iconst 1] (by decide +kernel) (pc' := 8) (L' := [.val (.int x)]) (S' := [.int 1]) rfl ?_
  refine b_goto C P (o := 4) (by decide +kernel) (pc' := 12) (by decide) ?_
  exact r_int C P (ty := .boolean) (by simp) rfl (by decide +kernel) (le_ _ _ rfl) (le_ _ _ rfl) ⟨_, rfl, rfl, rfl⟩
theorem b8_idem (x : Int32) : (x.toInt8.toInt32).toInt8.toInt32 = x.toInt8.toInt32 := by simp
set_option maxRecDepth 65536 in
set_option maxHeartbeats 4000000 in
theorem v_tb (l : Launch) {Z : State} {a0 : Array Value} {n0 : Nat} {h : Heap} (hw : ∀ d ∈ wV, d.before a0 Z = true) (hEL : EW Z a0 consts_1) (x : Int32) (O : Old Z n0 h) :
    Con l Z consts_1 n0 [] vTB jdk_43_method_46_code 1 (some (.array .byte)) ({ frames := 0, cells := 1, slots := 1, locals := 0 } : Room) #[.int x] h (Ret1 fun v h' => ∃ b k, v = .ref b ∧ Ext h h' ∧ Arv Z h' b k .byte (1 : Int32) [.int x.toInt8.toInt32] (.int 0)) := by
  refine Con.intro (plainFor_of_name (by first | (simp [plainName, overriddenIn]; done) | decide +kernel)) O hEL ?_
  intro p e s m below meth c T C hs P
  refine Run.cast (v_ce_ef m x) ?_
  refine blk C P [.iconst 1] (by decide +kernel) (pc' := 1) (L' := [.val (.int x)]) (S' := [.int 1]) rfl ?_
  have hb' := C.2.2.2.1
  have hn0 := P.n0le
  obtain ⟨vm0, k0, locs, X, eT, hS, hk, hC, hF, hO, hZ, hown⟩ := P.opened C
  obtain ⟨T1, h1, cA, X1, e1, E1, A1, st1⟩ := newP X C.1 hZ (aty := .byte) (hw (.arrayClass .byte) (List.mem_of_getElem? (i := 17) rfl)) eT (g := fr m 1 [.val (.int x)] [.int 1]) rfl (hb hb' (pc := 1) (by decide +kernel)) rfl (by decide) (cap := 1) (by decide) (by decide) (by decide) (by decide)
  refine Run.go st1 ?_
  refine Run.go (fun t q => prun_ok X1.here C.1 [.dup, .iconst 0, .iload_n 0, .i2b] (pc := 3) (pc' := 7) (L := [.val (.int x)]) (L' := [.val (.int x)]) (S := [.ref h.size]) (S' := [.int x.toInt8.toInt32, .int 0, .ref h.size, .ref h.size]) (by rw [hb']; decide +kernel) rfl q) ?_
  have V1 : Arv Z h1 h.size cA .byte (1 : Int32) [.int 0] (.int 0) := (Arv.new A1 (by decide)).pad (pad_rep [] (.int 0) 1)
  obtain ⟨cl, Ar, q1, q2, q3, H, G⟩ := V1
  obtain ⟨T2, h2, X2, e2, W2, st2⟩ := stB X1 C.1 hZ e1 Ar (j := 0) (x := x.toInt8.toInt32) (inb_of q2 ⟨by decide, by decide⟩) (g := fr m 7 [.val (.int x)] [.int x.toInt8.toInt32, .int 0, .ref h.size, .ref h.size]) rfl rfl (hb hb' (pc := 7) (by decide +kernel))
  refine Run.go st2 ?_
  have V2 := Arv.set Ar q1 q2 q3 H G (fits_nar_byte _) W2 0 rfl (by decide)
  rw [b8_idem] at V2
  have S1 : Safe Z consts_1 vm0 h1 h.size := Safe.ext E1 hC.1 (Safe.new (Nat.le_refl _))
  have R1 := CHr.ext E1 hC.1
  have P2 : Pos Z consts_1 n0 p l e ({ frames := 0, cells := 1, slots := 1, locals := 0 } : Room) s m #[.int x] below meth c T2 h2 (0 + 1) (0 + 1) :=
    ⟨vm0, k0, _, X2, e2, hS, by rw [W2.size]; exact Nat.le_trans hk E1.1, hC.trans (R1.trans (CHr.wr W2 S1 R1.1)), Fr.snoc X2 hF hn0, (hO.ext E1).wr W2 hn0⟩
  exact r_ref C P2 (pc := 8) (w := .ref h.size) rfl rfl (by decide +kernel) (le_ _ _ rfl) (le_ _ _ rfl) ⟨_, rfl, h.size, cA, rfl, exK E1 (Keep.of_wr W2) (Nat.le_refl _), V2⟩
set_option maxRecDepth 65536 in
set_option maxHeartbeats 4000000 in
theorem v_ib (l : Launch) {Z : State} {a0 : Array Value} {n0 : Nat} {h : Heap} (hw : ∀ d ∈ wV, d.before a0 Z = true) (hEL : EW Z a0 consts_1) (a b : Addr) {kb : ClassId} {cs : List Int32} (O : Old Z n0 h) (B : Blk Z a0 n0 h a sST) (V : Arv Z h b kb .byte (Int32.ofNat cs.length) ((cs.map fun c => c.toInt8.toInt32).map Value.int) (.int 0)) (hlen : cs.length ≤ 4000) (hcs : ∀ c ∈ cs, ¬ c < 0 ∧ ¬ (255 : Int32) < c) :
    Con l Z consts_1 n0 [] vIB jdk_42_method_151_code 3 none ({ frames := 1, cells := 0, slots := 0, locals := 12 } : Room) #[.ref a, .ref b, .int 0] h (Ret0 fun h' => Keep h h' [a] ∧ Str Z h' a cs) := by
  have wFV := hw (.fieldLink sST 9 sST "value" "[B") (List.mem_of_getElem? (i := 4) rfl)
  have wFC := hw (.fieldLink sST 15 sST "coder" "B") (List.mem_of_getElem? (i := 5) rfl)
  have wlV := hw (.laysFinal sST sST "value" "[B") (List.mem_of_getElem? (i := 6) rfl)
  have wlC := hw (.laysFinal sST sST "coder" "B") (List.mem_of_getElem? (i := 7) rfl)
  have wi := hw (.instantiable sST 4) (List.mem_of_getElem? (i := 8) rfl)
  refine Con.intro (plainFor_of_name (by first | (simp [plainName, overriddenIn]; done) | decide +kernel)) O hEL ?_
  intro p e s m below meth c T C hs P
  refine Run.cast (v_ib_ef m a b) ?_
  refine blk C P [.aload_n 0] (by decide +kernel) (pc' := 1) (L' := [.val (.ref a), .val (.ref b), .val (.int 0)]) (S' := [.ref a]) rfl ?_
  refine s_initO C P (idx := 1) (by decide +kernel) (hw _ (List.mem_of_getElem? (i := 0) rfl)) (hw _ (List.mem_of_getElem? (i := 1) rfl)) (hw _ (List.mem_of_getElem? (i := 2) rfl)) rfl (by decide) (W := 0) (le_ _ _ rfl) (by decide) (pc' := 4) rfl (fun T1 P1 => ?_)
  refine blk C P1 [.aload_n 0, .aload_n 1] (by decide +kernel) (pc' := 6) (L' := [.val (.ref a), .val (.ref b), .val (.int 0)]) (S' := [.ref b, .ref a]) rfl ?_
  have hb' := C.2.2.2.1
  obtain ⟨vm0, k0, locs, X, eT, hS, hk, hC, hF, hO, hZ, hown⟩ := P1.opened C
  have Fv : Fld Z h a sST "value" "[B" .null := B.2.2 (Or.inr wlV) (ty := .array .byte) (by decide)
  have Fc : Fld Z h a sST "coder" "B" (.int 0) := B.2.2 (Or.inr wlC) (ty := .byte) (by decide)
  have nba : b ≠ a := (B.2.1.neArv V wi).symm
  have sne : RoadKit.slotOf Z sST "coder" "B" ≠ RoadKit.slotOf Z sST "value" "[B" := slot_ne (C := sST) (Or.inr wlC) (Or.inr wlV) (by decide) (t := .byte) (by decide) (t' := .array .byte) (by decide)
  obtain ⟨T4, h4, X4, e4, W4, st4⟩ := putF X C.1 hZ hown (host := "") (Or.inl wFV) Via.refl eT Fv B.2.1 (Or.inr ⟨wlV, rfl, C.2.2.2.2.2.2.1⟩) wi (ty := .array .byte) (by decide) rfl rfl (v := .ref b) (g := fr m 6 [.val (.ref a), .val (.ref b), .val (.int 0)] [.ref b, .ref a]) rfl rfl (hb hb' (pc := 6) (by decide +kernel))
  refine Run.go st4 ?_
  refine Run.go (fun t q => prun_ok X4.here C.1 [.aload_n 0, .iload_n 2] (pc := 9) (pc' := 11) (L := [.val (.ref a), .val (.ref b), .val (.int 0)]) (L' := [.val (.ref a), .val (.ref b), .val (.int 0)]) (S := []) (S' := [.int 0, .ref a]) (by rw [hb']; decide +kernel) rfl q) ?_
  have Fc4 : Fld Z h4 a sST "coder" "B" (.int 0) := Fc.other W4 (Or.inr sne)
  have A4 : Exa Z h4 a sST := B.2.1.wr W4
  obtain ⟨T6, h6, X6, e6, W6, st6⟩ := putF X4 C.1 hZ hown (host := "") (Or.inl wFC) Via.refl e4 Fc4 A4 (Or.inr ⟨wlC, rfl, C.2.2.2.2.2.2.1⟩) wi (ty := .byte) (by decide) rfl rfl (v := .int 0) (g := fr m 11 [.val (.ref a), .val (.ref b), .val (.int 0)] [.int 0, .ref a]) rfl rfl (hb hb' (pc := 11) (by decide +kernel))
  refine Run.go st6 ?_
  have S2 : Safe Z consts_1 vm0 h a := safe_blank hZ.alike B.2.1 Fv
  have S4 : Safe Z consts_1 vm0 h4 a := Safe.wr W4 S2 hC.1 S2
  have R4 := CHr.wr W4 S2 hC.1
  have R6 := CHr.wr W6 S4 R4.1
  have P6 : Pos Z consts_1 n0 p l e ({ frames := 1, cells := 0, slots := 0, locals := 12 } : Room) s m #[.ref a, .ref b, .int 0] below meth c T6 h6 0 0 :=
    ⟨vm0, k0, _, X6, e6, hS, by rw [W6.size, W4.size]; exact hk, hC.trans (R4.trans R6), Fr.snoc X6 (Fr.snoc X4 hF B.1) B.1, (hO.wr W4 B.1).wr W6 B.1⟩
  refine r_void C P6 (pc := 14) (by decide +kernel) (by decide) (by decide) ⟨rfl, ?_, ?_⟩
  · exact ((Keep.refl h [a]).wr W4 (Or.inl (by simp))).wr W6 (Or.inl (by simp))
  · exact ⟨hlen, hcs, A4.wr W6, Fc4.same W6, b, kb, (Fv.same W4).other W6 (Or.inr sne.symm), (V.other W4 nba).other W6 nba⟩
set_option maxRecDepth 65536 in
set_option maxHeartbeats 4000000 in
theorem k_valueOf (l : Launch) {Z : State} {a0 : Array Value} {n0 : Nat} {h : Heap} (hwt : ∀ d ∈ tables_1, d.before a0 Z = true) (hEL : EW Z a0 consts_1) {z : Int32} (Sz : Sta Z Z.heap sST "COMPACT_STRINGS" "Z" (.int z)) (hz : ¬ z = 0) (x : Int32) (O : Old Z n0 h) (hx : ¬ x < 0 ∧ ¬ (255 : Int32) < x) :
    Con l Z consts_1 n0 [] vOf jdk_42_method_139_code 1 (some (.object "java/lang/String")) ({ frames := 2, cells := 2, slots := 5, locals := 28 } : Room) #[.int x] h (Ret1 fun v h' => ∃ r, v = .ref r ∧ Ext h h' ∧ Str Z h' r [x]) := by
  have hw : ∀ d ∈ wV, d.before a0 Z = true := fun d hd => hwt d ((by decide +kernel : ∀ d ∈ wV, d ∈ tables_1) d hd)
  refine Con.intro (plainFor_of_name (by first | (simp [plainName, overriddenIn]; done) | decide +kernel)) O hEL ?_
  intro p e s m below meth c T C hs P
  refine Run.cast (v_ce_ef m x) ?_
  refine s_gets C P (idx := 38) (by decide +kernel) (hw _ (List.mem_of_getElem? (i := 3) rfl)) Sz (pc' := 3) rfl (fun T1 P1 => ?_)
  refine b_ifN C P1 (cd := .eq) (o := 23) (by decide +kernel) (pc' := 6) rfl hz ?_
  refine blk C P1 [.iload_n 0] (by decide +kernel) (pc' := 7) (L' := [.val (.int x)]) (S' := [.int x]) rfl ?_
  refine c_static C P1 (idx := 1015) (y := vCE) (by decide +kernel) (hw _ (List.mem_of_getElem? (i := 10) rfl)) (hw _ (List.mem_of_getElem? (i := 11) rfl)) (hw _ (List.mem_of_getElem? (i := 13) rfl)) (hw _ (List.mem_of_getElem? (i := 12) rfl)) (by decide) [.int x] [] (v_ce l hEL x P1.old hx.2) (by decide) (W := 0) (by decide) (by decide +kernel : parseMethodDescriptor "(C)Z" = some ⟨[.char], some .boolean⟩) rfl rfl rfl (le_ _ _ rfl) (le_ _ _ rfl) (le_ _ _ rfl) (pc' := 10) rfl (fun T2 h2 v2 P2 Q2 => ?_)
  obtain ⟨rfl, rfl⟩ := Q2
  refine b_ifN C P2 (cd := .eq) (o := 16) (by decide +kernel) (pc' := 13) rfl (by decide : ¬ (1 : Int32) = 0) ?_
  refine s_new C P2 (idx := 10) (by decide +kernel) (hw _ (List.mem_of_getElem? (i := 21) rfl)) (hw _ (List.mem_of_getElem? (i := 8) rfl)) (hw _ (List.mem_of_getElem? (i := 9) rfl)) (le_ _ _ rfl) (le_ _ _ rfl) (pc' := 16) rfl (fun T3 h3 P3 E3 B3 => ?_)
  refine blk C P3 [.dup, .iload_n 0] (by decide +kernel) (pc' := 18) (L' := [.val (.int x)]) (S' := [.int x, .ref h.size, .ref h.size]) rfl ?_
  refine c_static C P3 (idx := 1018) (y := vTB) (by decide +kernel) (hw _ (List.mem_of_getElem? (i := 14) rfl)) (hw _ (List.mem_of_getElem? (i := 15) rfl)) (hw _ (List.mem_of_getElem? (i := 13) rfl)) (hw _ (List.mem_of_getElem? (i := 16) rfl)) (by decide) [.int x] [.ref h.size, .ref h.size] (v_tb l hw hEL x P3.old) (by decide) (W := 2) (by decide) (by decide +kernel : parseMethodDescriptor "(C)[B" = some ⟨[.char], some (.array .byte)⟩) rfl rfl rfl (le_ _ _ rfl) (le_ _ _ rfl) (le_ _ _ rfl) (pc' := 21) rfl (fun T4 h4 v4 P4 Q4 => ?_)
  obtain ⟨b4, k4, rfl, E4, V4⟩ := Q4
  refine blk C P4 [.iconst 0] (by decide +kernel) (pc' := 22) (L' := [.val (.int x)]) (S' := [.int 0, .ref b4, .ref h.size, .ref h.size]) rfl ?_
  refine c_special C P4 (idx := 209) (y := vIB) rfl (by decide +kernel) (hw _ (List.mem_of_getElem? (i := 18) rfl)) (hw _ (List.mem_of_getElem? (i := 19) rfl)) (hw _ (List.mem_of_getElem? (i := 9) rfl)) (hw _ (List.mem_of_getElem? (i := 20) rfl)) (by decide) [.ref b4, .int 0] [.ref h.size] (v_ib l hw hEL h.size b4 (cs := [x]) P4.old (B3.ext E4) V4 (le_ _ _ rfl) (latS hx lat0)) (by decide) (W := 1) (by decide) (by decide +kernel : parseMethodDescriptor "([BB)V" = some ⟨[.array .byte, .byte], none⟩) rfl rfl rfl (le_ _ _ rfl) (le_ _ _ rfl) (le_ _ _ rfl) (pc' := 25) rfl (fun T5 h5 P5 Q5 => ?_)
  obtain ⟨K5, S5⟩ := Q5
  exact r_ref C P5 (w := .ref h.size) rfl rfl (by decide +kernel) (le_ _ _ rfl) (le_ _ _ rfl) ⟨_, rfl, h.size, rfl, exK (exT E3 E4) K5 (Nat.le_refl _), S5⟩
end Jvm.Pilot.@@N@@
namespace Jvm.Pilot.@@N@@
open Jvm Jvm.ClassFile Sem Op Lib Jvm.Free Jvm.Stand Jvm.LawKit Jvm.RoadKit Bundle Jvm.Own Jvm.Pilot.@@N@@.Jvm.D
def Wd (Z : State) (a0 : Array Value) (z : Int32) : Prop := (∀ d ∈ tables_1, d.before a0 Z = true) ∧ EW Z a0 consts_1 ∧ Sta Z Z.heap sST "COMPACT_STRINGS" "Z" (.int z) ∧ ¬ z = 0
def drL (x : Int32) : List Int32 :=
  if ((XT.ushr x (16 : Int32)) &&& (3 : Int32)) = 0 then [] else
  if ((XT.ushr x (16 : Int32)) &&& (3 : Int32)) = (1 : Int32) then [(c16 (x &&& (255 : Int32)))] else
  [(c16 (x &&& (255 : Int32))), (c16 ((XT.ushr x (8 : Int32)) &&& (255 : Int32)))]
theorem k_rec_ef (m : MethodId) (a : Addr) : entryFrame m #[.ref a] 1 = fr m 0 [.val (.ref a)] [] := by first | (simp [entryFrame, mkF, argsToLocals, Value.category]; done) | rfl
set_option maxRecDepth 65536 in
set_option maxHeartbeats 4000000 in
theorem k_rec (l : Launch) {Z : State} {a0 : Array Value} {n0 : Nat} {h : Heap} {z : Int32} (wd : Wd Z a0 z) (a : Addr)  (O : Old Z n0 h)  :
    Con l Z consts_1 n0 [] (⟨"java/lang/Record", "<init>", "()V"⟩ : MethodName) jdk_30_method_1_code 1 none ({ frames := 1, cells := 0, slots := 0, locals := 12 } : Room) #[.ref a] h (Ret0 fun h' => h = h') := by
  obtain ⟨hw, hEL, Sz, hz⟩ := id wd
  refine Con.intro (plainFor_of_name (by first | (simp [plainName, overriddenIn]; done) | decide +kernel)) O hEL ?_
  intro p e s m below meth c T C hs P
  have C : Ctx Z a0 consts_1 p s m meth c "java/lang/Record" "<init>" jdk_30_method_1_code 1 none := C
  refine Run.cast (k_rec_ef m a) ?_
  refine blk C P [.aload_n 0] (by decide +kernel) (pc' := 1) (L' := [.val (.ref a)]) (S' := [.ref a]) rfl ?_
  refine s_initO C P (idx := 1) (by decide +kernel) (hw _ (List.mem_of_getElem? (i := 37) rfl)) (hw _ (List.mem_of_getElem? (i := 16) rfl)) (hw _ (List.mem_of_getElem? (i := 17) rfl)) rfl (le_ _ _ rfl) (W := 0) (le_ _ _ rfl) (le_ _ _ rfl) (pc' := 4) rfl (fun T1 P1 => ?_)
  exact r_void C P1 (by decide +kernel) (le_ _ _ rfl) (le_ _ _ rfl) ⟨rfl, rfl⟩
theorem k_draw_ef (m : MethodId) (x : Int32) : entryFrame m #[.int x] 4 = fr m 0 [.val (.int x), .unset, .unset, .unset] [] := by first | (simp [entryFrame, mkF, argsToLocals, Value.category]; done) | rfl
set_option maxRecDepth 65536 in
set_option maxHeartbeats 4000000 in
theorem k_draw (l : Launch) {Z : State} {a0 : Array Value} {n0 : Nat} {h : Heap} {z : Int32} (wd : Wd Z a0 z) (x : Int32)  (O : Old Z n0 h)  :
    Con l Z consts_1 n0 [] (⟨"com/example/user_data_sweeper/userdatasweeper/OptionIsFlagPinLaw", "draw", "(I)Ljava/lang/String;"⟩ : MethodName) method_2_code 4 (some (.object "java/lang/String")) ({ frames := 4, cells := 4, slots := 12, locals := 66 } : Room) #[.int x] h (Ret1 fun v h' => ∃ r, v = .ref r ∧ Ext h h' ∧ Str Z h' r (drL x)) := by
  obtain ⟨hw, hEL, Sz, hz⟩ := id wd
  have wS : ∀ a ∈ Bundle.stringAtoms, a.before a0 Z = true := fun d hd => hw d ((by decide +kernel : ∀ d ∈ Bundle.stringAtoms, d ∈ tables_1) d hd)
  refine Con.intro (plainFor_of_name (by first | (simp [plainName, overriddenIn]; done) | decide +kernel)) O hEL ?_
  intro p e s m below meth c T C hs P
  have C : Ctx Z a0 consts_1 p s m meth c "com/example/user_data_sweeper/userdatasweeper/OptionIsFlagPinLaw" "draw" method_2_code 4 (some (.object "java/lang/String")) := C
  refine Run.cast (k_draw_ef m x) ?_
  refine blk C P [.iload_n 0, .bipush 16, .iushr, .iconst 3, .iand, .istore_n 1, .iload_n 0, .sipush 255, .iand, .i2c, .istore_n 2, .iload_n 0, .bipush 8, .iushr, .sipush 255, .iand, .i2c, .istore_n 3, .iload_n 1] (by decide +kernel) (pc' := 25) (L' := [.val (.int x), .val (.int ((XT.ushr x (16 : Int32)) &&& (3 : Int32))), .val (.int (c16 (x &&& (255 : Int32)))), .val (.int (c16 ((XT.ushr x (8 : Int32)) &&& (255 : Int32))))]) (S' := [.int ((XT.ushr x (16 : Int32)) &&& (3 : Int32))]) rfl ?_
  refine b_if C P (cd := .ne) (o := 14) (by decide +kernel) (pc' := 39) (by decide) (pn := 28) rfl (fun (q1 : ¬ ((XT.ushr x (16 : Int32)) &&& (3 : Int32)) = 0) => ?_) (fun (q1 : ((XT.ushr x (16 : Int32)) &&& (3 : Int32)) = 0) => ?_)
  · skip
    refine blk C P [.iload_n 1, .iconst 1] (by decide +kernel) (pc' := 41) (L' := [.val (.int x), .val (.int ((XT.ushr x (16 : Int32)) &&& (3 : Int32))), .val (.int (c16 (x &&& (255 : Int32)))), .val (.int (c16 ((XT.ushr x (8 : Int32)) &&& (255 : Int32))))]) (S' := [.int (1 : Int32), .int ((XT.ushr x (16 : Int32)) &&& (3 : Int32))]) rfl ?_
    refine b_cm C P (cd := .ne) (o := 8) (by decide +kernel) (pc' := 49) (by decide) (pn := 44) rfl (fun (q2 : ¬ ((XT.ushr x (16 : Int32)) &&& (3 : Int32)) = (1 : Int32)) => ?_) (fun (q2 : ((XT.ushr x (16 : Int32)) &&& (3 : Int32)) = (1 : Int32)) => ?_)
    · skip
      refine s_new C P (idx := 7) (by decide +kernel) (hw _ (List.mem_of_getElem? (i := 4) rfl)) (hw _ (List.mem_of_getElem? (i := 5) rfl)) (hw _ (List.mem_of_getElem? (i := 6) rfl)) (le_ _ _ rfl) (le_ _ _ rfl) (pc' := 52) rfl (fun T3 h3 P3 E3 B3 => ?_)
      replace P3 := P3.more (k' := 1) (n' := 4) (le_ _ _ rfl) (le_ _ _ rfl)
      refine blk C P3 [.dup, .iconst 2] (by decide +kernel) (pc' := 54) (L' := [.val (.int x), .val (.int ((XT.ushr x (16 : Int32)) &&& (3 : Int32))), .val (.int (c16 (x &&& (255 : Int32)))), .val (.int (c16 ((XT.ushr x (8 : Int32)) &&& (255 : Int32))))]) (S' := [.int (2 : Int32), .ref h.size, .ref h.size]) rfl ?_
      refine s_newC C P3 2 (by decide +kernel) (hw _ (List.mem_of_getElem? (i := 7) rfl)) rfl (by decide) (le_ _ _ rfl) (le_ _ _ rfl) (pc' := 56) rfl (fun T4 h4 P4 E4 V4 => ?_)
      replace P4 := P4.more (k' := 2) (n' := 6) (le_ _ _ rfl) (le_ _ _ rfl)
      refine blk C P4 [.dup, .iconst 0, .iload_n 2] (by decide +kernel) (pc' := 59) (L' := [.val (.int x), .val (.int ((XT.ushr x (16 : Int32)) &&& (3 : Int32))), .val (.int (c16 (x &&& (255 : Int32)))), .val (.int (c16 ((XT.ushr x (8 : Int32)) &&& (255 : Int32))))]) (S' := [.int (c16 (x &&& (255 : Int32))), .int (0 : Int32), .ref h3.size, .ref h3.size, .ref h.size, .ref h.size]) rfl ?_
      refine s_stC C P4 0 (by decide +kernel) V4 rfl (Nat.lt_of_lt_of_le (Nat.lt_succ_self _) (le_ _ _ rfl)) (c16_idem _) (pc' := 60) rfl (fun T5 h5 P5 K5 V5 => ?_)
      replace V5 : Chs Z n0 h5 (h3.size) [(c16 (x &&& (255 : Int32))), (0 : Int32)] := V5
      refine blk C P5 [.dup, .iconst 1, .iload_n 3] (by decide +kernel) (pc' := 63) (L' := [.val (.int x), .val (.int ((XT.ushr x (16 : Int32)) &&& (3 : Int32))), .val (.int (c16 (x &&& (255 : Int32)))), .val (.int (c16 ((XT.ushr x (8 : Int32)) &&& (255 : Int32))))]) (S' := [.int (c16 ((XT.ushr x (8 : Int32)) &&& (255 : Int32))), .int (1 : Int32), .ref h3.size, .ref h3.size, .ref h.size, .ref h.size]) rfl ?_
      refine s_stC C P5 1 (by decide +kernel) V5 rfl (Nat.lt_of_lt_of_le (Nat.lt_succ_self _) (le_ _ _ rfl)) (c16_idem _) (pc' := 64) rfl (fun T6 h6 P6 K6 V6 => ?_)
      replace V6 : Chs Z n0 h6 (h3.size) [(c16 (x &&& (255 : Int32))), (c16 ((XT.ushr x (8 : Int32)) &&& (255 : Int32)))] := V6
      have B8 := (B3.ext (exK (exK E4 K5 (Nat.le_refl _)) K6 (Nat.le_refl _)))
      refine c_newStr C P6 hw Sz hz (idx := 9) (cs := [(c16 (x &&& (255 : Int32))), (c16 ((XT.ushr x (8 : Int32)) &&& (255 : Int32)))]) (rest := [.ref h.size]) (W := 1) (by decide +kernel) (hw _ (List.mem_of_getElem? (i := 8) rfl)) (hw _ (List.mem_of_getElem? (i := 9) rfl)) B8 V6 (latS latv (latS latv lat0)) rfl (le_ _ _ rfl) (le_ _ _ rfl) (le_ _ _ rfl) (le_ _ _ rfl) (le_ _ _ rfl) (pc' := 67) rfl (fun T7 h7 P7 K7 S7 => ?_)
      replace P7 := P7.more (k' := 4) (n' := 12) (le_ _ _ rfl) (le_ _ _ rfl)
      exact r_ref C P7 (w := .ref h.size) rfl rfl (by decide +kernel) (le_ _ _ rfl) (le_ _ _ rfl) ⟨_, rfl, _, rfl, (exK (exK (exK (exT E3 E4) K5 (E3).1) K6 (E3).1) K7 (Nat.le_refl _)), by rw [drL, if_neg q1, if_neg q2]; exact S7⟩
    · skip
      refine blk C P [.iload_n 2] (by decide +kernel) (pc' := 45) (L' := [.val (.int x), .val (.int ((XT.ushr x (16 : Int32)) &&& (3 : Int32))), .val (.int (c16 (x &&& (255 : Int32)))), .val (.int (c16 ((XT.ushr x (8 : Int32)) &&& (255 : Int32))))]) (S' := [.int (c16 (x &&& (255 : Int32)))]) rfl ?_
      refine c_static C P (idx := 12) (y := (⟨"java/lang/String", "valueOf", "(C)Ljava/lang/String;"⟩ : MethodName)) (ybytes := jdk_42_method_139_code) (ymax := 1) (yret := (some (.object "java/lang/String"))) (yrm := ({ frames := 2, cells := 2, slots := 5, locals := 28 } : Room)) (by decide +kernel) (hw _ (List.mem_of_getElem? (i := 69) rfl)) (hw _ (List.mem_of_getElem? (i := 70) rfl)) (hw _ (List.mem_of_getElem? (i := 6) rfl)) (hw _ (List.mem_of_getElem? (i := 71) rfl)) (by decide) [.int (c16 (x &&& (255 : Int32)))] [] (k_valueOf l hw hEL Sz hz (c16 (x &&& (255 : Int32))) P.old latv) (le_ _ _ rfl) (W := 0) (le_ _ _ rfl) (by decide +kernel : parseMethodDescriptor "(C)Ljava/lang/String;" = some ⟨[.char], some (.object "java/lang/String")⟩) rfl rfl rfl (le_ _ _ rfl) (le_ _ _ rfl) (le_ _ _ rfl) (pc' := 48) rfl (fun T9 h9 v9 P9 Q9 => ?_)
      replace P9 := P9.more (k' := 2) (n' := 5) (le_ _ _ rfl) (le_ _ _ rfl)
      obtain ⟨b9, rfl, E9, S9⟩ := Q9
      exact r_ref C P9 (w := .ref b9) rfl rfl (by decide +kernel) (le_ _ _ rfl) (le_ _ _ rfl) ⟨_, rfl, _, rfl, E9, by rw [drL, if_neg q1, if_pos q2]; exact S9⟩
  · skip
    refine s_new C P (idx := 7) (by decide +kernel) (hw _ (List.mem_of_getElem? (i := 4) rfl)) (hw _ (List.mem_of_getElem? (i := 5) rfl)) (hw _ (List.mem_of_getElem? (i := 6) rfl)) (le_ _ _ rfl) (le_ _ _ rfl) (pc' := 31) rfl (fun T10 h10 P10 E10 B10 => ?_)
    replace P10 := P10.more (k' := 1) (n' := 4) (le_ _ _ rfl) (le_ _ _ rfl)
    refine blk C P10 [.dup, .iconst 0] (by decide +kernel) (pc' := 33) (L' := [.val (.int x), .val (.int ((XT.ushr x (16 : Int32)) &&& (3 : Int32))), .val (.int (c16 (x &&& (255 : Int32)))), .val (.int (c16 ((XT.ushr x (8 : Int32)) &&& (255 : Int32))))]) (S' := [.int (0 : Int32), .ref h.size, .ref h.size]) rfl ?_
    refine s_newC C P10 0 (by decide +kernel) (hw _ (List.mem_of_getElem? (i := 7) rfl)) rfl (by decide) (le_ _ _ rfl) (le_ _ _ rfl) (pc' := 35) rfl (fun T11 h11 P11 E11 V11 => ?_)
    replace P11 := P11.more (k' := 2) (n' := 4) (le_ _ _ rfl) (le_ _ _ rfl)
    have B13 := (B10.ext E11)
    refine c_newStr C P11 hw Sz hz (idx := 9) (cs := []) (rest := [.ref h.size]) (W := 1) (by decide +kernel) (hw _ (List.mem_of_getElem? (i := 8) rfl)) (hw _ (List.mem_of_getElem? (i := 9) rfl)) B13 V11 lat0 rfl (le_ _ _ rfl) (le_ _ _ rfl) (le_ _ _ rfl) (le_ _ _ rfl) (le_ _ _ rfl) (pc' := 38) rfl (fun T12 h12 P12 K12 S12 => ?_)
    replace P12 := P12.more (k' := 4) (n' := 8) (le_ _ _ rfl) (le_ _ _ rfl)
    exact r_ref C P12 (w := .ref h.size) rfl rfl (by decide +kernel) (le_ _ _ rfl) (le_ _ _ rfl) ⟨_, rfl, _, rfl, (exK (exT E10 E11) K12 (Nat.le_refl _)), by rw [drL, if_pos q1]; exact S12⟩
theorem k_opt_nn_ef (m : MethodId) (a nm : Addr) (r1 r2 : Int32) : entryFrame m #[.ref a, .ref nm, .null, .null, .int r1, .int r2] 6 = fr m 0 [.val (.ref a), .val (.ref nm), .val (.null), .val (.null), .val (.int r1), .val (.int r2)] [] := by first | (simp [entryFrame, mkF, argsToLocals, Value.category]; done) | rfl
set_option maxRecDepth 65536 in
set_option maxHeartbeats 4000000 in
theorem k_opt_nn (l : Launch) {Z : State} {a0 : Array Value} {n0 : Nat} {h : Heap} {z : Int32} (wd : Wd Z a0 z) (a nm : Addr) (r1 r2 : Int32)  (O : Old Z n0 h) (B : Blk Z a0 n0 h a "com/example/user_data_sweeper/userdatasweeper/Option") (hr1 : narrow .boolean (.int r1) = .int r1 ∧ fits .boolean (.int r1) = true) (hr2 : narrow .boolean (.int r2) = .int r2 ∧ fits .boolean (.int r2) = true) :
    Con l Z consts_1 n0 [] (⟨"com/example/user_data_sweeper/userdatasweeper/Option", "<init>", "(Ljava/lang/String;Ljava/lang/String;Ljava/lang/String;ZZ)V"⟩ : MethodName) prog_20_method_1_code 6 none ({ frames := 2, cells := 0, slots := 0, locals := 24 } : Room) #[.ref a, .ref nm, .null, .null, .int r1, .int r2] h (Ret0 fun h' => Keep h h' [a] ∧ Exa Z h' a "com/example/user_data_sweeper/userdatasweeper/Option" ∧ Fld Z h' a "com/example/user_data_sweeper/userdatasweeper/Option" "label" "Ljava/lang/String;" (.null)) := by
  obtain ⟨hw, hEL, Sz, hz⟩ := id wd
  refine Con.intro (plainFor_of_name (by first | (simp [plainName, overriddenIn]; done) | decide +kernel)) O hEL ?_
  intro p e s m below meth c T C hs P
  have C : Ctx Z a0 consts_1 p s m meth c "com/example/user_data_sweeper/userdatasweeper/Option" "<init>" prog_20_method_1_code 6 none := C
  refine Run.cast (k_opt_nn_ef m a nm r1 r2) ?_
  refine blk C P [.aload_n 0] (by decide +kernel) (pc' := 1) (L' := [.val (.ref a), .val (.ref nm), .val (.null), .val (.null), .val (.int r1), .val (.int r2)]) (S' := [.ref a]) rfl ?_
  refine c_special C P (idx := 1) (y := (⟨"java/lang/Record", "<init>", "()V"⟩ : MethodName)) (ybytes := jdk_30_method_1_code) (ymax := 1) (yrm := ({ frames := 1, cells := 0, slots := 0, locals := 12 } : Room)) rfl (by decide +kernel) (hw _ (List.mem_of_getElem? (i := 32) rfl)) (hw _ (List.mem_of_getElem? (i := 33) rfl)) (hw _ (List.mem_of_getElem? (i := 35) rfl)) (hw _ (List.mem_of_getElem? (i := 36) rfl)) (by decide) [] [] (k_rec l wd a P.old ) (le_ _ _ rfl) (W := 0) (le_ _ _ rfl) (by decide +kernel : parseMethodDescriptor "()V" = some ⟨[], none⟩) rfl rfl rfl (le_ _ _ rfl) (le_ _ _ rfl) (le_ _ _ rfl) (pc' := 4) rfl (fun T1 h1 P1 Q1 => ?_)
  replace P1 := P1.more (k' := 0) (n' := 0) (le_ _ _ rfl) (le_ _ _ rfl)
  obtain rfl := Q1
  refine blk C P1 [.aload_n 0, .aload_n 1] (by decide +kernel) (pc' := 6) (L' := [.val (.ref a), .val (.ref nm), .val (.null), .val (.null), .val (.int r1), .val (.int r2)]) (S' := [.ref nm, .ref a]) rfl ?_
  refine s_putf C P1 (idx := 7) (by decide +kernel) (hw _ (List.mem_of_getElem? (i := 38) rfl)) B.1 (B.2.2 (Or.inr (hw _ (List.mem_of_getElem? (i := 39) rfl))) (ty := (.object "java/lang/String")) (by decide)) B.2.1 (hw _ (List.mem_of_getElem? (i := 39) rfl)) rfl (hw _ (List.mem_of_getElem? (i := 27) rfl)) (by decide) (ty := (.object "java/lang/String")) (by decide) rfl rfl (pc' := 9) rfl (fun T2 h2 P2 W2 => ?_)
  have G3 := B.2.1.wr W2
  have G4 := (B.2.2 (Or.inr (hw _ (List.mem_of_getElem? (i := 39) rfl))) (ty := (.object "java/lang/String")) (by decide)).same W2
  have G5 := (B.2.2 (Or.inr (hw _ (List.mem_of_getElem? (i := 41) rfl))) (ty := (.object "java/lang/String")) (by decide)).other W2 (Or.inr (slot_ne (C := "com/example/user_data_sweeper/userdatasweeper/Option") (Or.inr (hw _ (List.mem_of_getElem? (i := 41) rfl))) (Or.inr (hw _ (List.mem_of_getElem? (i := 39) rfl))) (by decide) (t := (.object "java/lang/String")) (by decide) (t' := (.object "java/lang/String")) (by decide)))
  have G6 := (B.2.2 (Or.inr (hw _ (List.mem_of_getElem? (i := 43) rfl))) (ty := (.object "java/lang/String")) (by decide)).other W2 (Or.inr (slot_ne (C := "com/example/user_data_sweeper/userdatasweeper/Option") (Or.inr (hw _ (List.mem_of_getElem? (i := 43) rfl))) (Or.inr (hw _ (List.mem_of_getElem? (i := 39) rfl))) (by decide) (t := (.object "java/lang/String")) (by decide) (t' := (.object "java/lang/String")) (by decide)))
  have G7 := (B.2.2 (Or.inr (hw _ (List.mem_of_getElem? (i := 45) rfl))) (ty := .boolean) (by decide)).other W2 (Or.inr (slot_ne (C := "com/example/user_data_sweeper/userdatasweeper/Option") (Or.inr (hw _ (List.mem_of_getElem? (i := 45) rfl))) (Or.inr (hw _ (List.mem_of_getElem? (i := 39) rfl))) (by decide) (t := .boolean) (by decide) (t' := (.object "java/lang/String")) (by decide)))
  have G8 := (B.2.2 (Or.inr (hw _ (List.mem_of_getElem? (i := 47) rfl))) (ty := .boolean) (by decide)).other W2 (Or.inr (slot_ne (C := "com/example/user_data_sweeper/userdatasweeper/Option") (Or.inr (hw _ (List.mem_of_getElem? (i := 47) rfl))) (Or.inr (hw _ (List.mem_of_getElem? (i := 39) rfl))) (by decide) (t := .boolean) (by decide) (t' := (.object "java/lang/String")) (by decide)))
  refine blk C P2 [.aload_n 0, .aload_n 2] (by decide +kernel) (pc' := 11) (L' := [.val (.ref a), .val (.ref nm), .val (.null), .val (.null), .val (.int r1), .val (.int r2)]) (S' := [.null, .ref a]) rfl ?_
  refine s_putf C P2 (idx := 13) (by decide +kernel) (hw _ (List.mem_of_getElem? (i := 40) rfl)) B.1 G5 G3 (hw _ (List.mem_of_getElem? (i := 41) rfl)) rfl (hw _ (List.mem_of_getElem? (i := 27) rfl)) (by decide) (ty := (.object "java/lang/String")) (by decide) rfl rfl (pc' := 14) rfl (fun T9 h9 P9 W9 => ?_)
  have G10 := G3.wr W9
  have G11 := G4.other W9 (Or.inr (slot_ne (C := "com/example/user_data_sweeper/userdatasweeper/Option") (Or.inr (hw _ (List.mem_of_getElem? (i := 39) rfl))) (Or.inr (hw _ (List.mem_of_getElem? (i := 41) rfl))) (by decide) (t := (.object "java/lang/String")) (by decide) (t' := (.object "java/lang/String")) (by decide)))
  have G12 := G5.same W9
  have G13 := G6.other W9 (Or.inr (slot_ne (C := "com/example/user_data_sweeper/userdatasweeper/Option") (Or.inr (hw _ (List.mem_of_getElem? (i := 43) rfl))) (Or.inr (hw _ (List.mem_of_getElem? (i := 41) rfl))) (by decide) (t := (.object "java/lang/String")) (by decide) (t' := (.object "java/lang/String")) (by decide)))
  have G14 := G7.other W9 (Or.inr (slot_ne (C := "com/example/user_data_sweeper/userdatasweeper/Option") (Or.inr (hw _ (List.mem_of_getElem? (i := 45) rfl))) (Or.inr (hw _ (List.mem_of_getElem? (i := 41) rfl))) (by decide) (t := .boolean) (by decide) (t' := (.object "java/lang/String")) (by decide)))
  have G15 := G8.other W9 (Or.inr (slot_ne (C := "com/example/user_data_sweeper/userdatasweeper/Option") (Or.inr (hw _ (List.mem_of_getElem? (i := 47) rfl))) (Or.inr (hw _ (List.mem_of_getElem? (i := 41) rfl))) (by decide) (t := .boolean) (by decide) (t' := (.object "java/lang/String")) (by decide)))
  refine blk C P9 [.aload_n 0, .aload_n 3] (by decide +kernel) (pc' := 16) (L' := [.val (.ref a), .val (.ref nm), .val (.null), .val (.null), .val (.int r1), .val (.int r2)]) (S' := [.null, .ref a]) rfl ?_
  refine s_putf C P9 (idx := 16) (by decide +kernel) (hw _ (List.mem_of_getElem? (i := 42) rfl)) B.1 G13 G10 (hw _ (List.mem_of_getElem? (i := 43) rfl)) rfl (hw _ (List.mem_of_getElem? (i := 27) rfl)) (by decide) (ty := (.object "java/lang/String")) (by decide) rfl rfl (pc' := 19) rfl (fun T16 h16 P16 W16 => ?_)
  have G17 := G10.wr W16
  have G18 := G11.other W16 (Or.inr (slot_ne (C := "com/example/user_data_sweeper/userdatasweeper/Option") (Or.inr (hw _ (List.mem_of_getElem? (i := 39) rfl))) (Or.inr (hw _ (List.mem_of_getElem? (i := 43) rfl))) (by decide) (t := (.object "java/lang/String")) (by decide) (t' := (.object "java/lang/String")) (by decide)))
  have G19 := G12.other W16 (Or.inr (slot_ne (C := "com/example/user_data_sweeper/userdatasweeper/Option") (Or.inr (hw _ (List.mem_of_getElem? (i := 41) rfl))) (Or.inr (hw _ (List.mem_of_getElem? (i := 43) rfl))) (by decide) (t := (.object "java/lang/String")) (by decide) (t' := (.object "java/lang/String")) (by decide)))
  have G20 := G13.same W16
  have G21 := G14.other W16 (Or.inr (slot_ne (C := "com/example/user_data_sweeper/userdatasweeper/Option") (Or.inr (hw _ (List.mem_of_getElem? (i := 45) rfl))) (Or.inr (hw _ (List.mem_of_getElem? (i := 43) rfl))) (by decide) (t := .boolean) (by decide) (t' := (.object "java/lang/String")) (by decide)))
  have G22 := G15.other W16 (Or.inr (slot_ne (C := "com/example/user_data_sweeper/userdatasweeper/Option") (Or.inr (hw _ (List.mem_of_getElem? (i := 47) rfl))) (Or.inr (hw _ (List.mem_of_getElem? (i := 43) rfl))) (by decide) (t := .boolean) (by decide) (t' := (.object "java/lang/String")) (by decide)))
  refine blk C P16 [.aload_n 0, .iload 4] (by decide +kernel) (pc' := 22) (L' := [.val (.ref a), .val (.ref nm), .val (.null), .val (.null), .val (.int r1), .val (.int r2)]) (S' := [.int r1, .ref a]) rfl ?_
  refine s_putf C P16 (idx := 19) (by decide +kernel) (hw _ (List.mem_of_getElem? (i := 44) rfl)) B.1 G21 G17 (hw _ (List.mem_of_getElem? (i := 45) rfl)) rfl (hw _ (List.mem_of_getElem? (i := 27) rfl)) (by decide) (ty := .boolean) (by decide) hr1.1 hr1.2 (pc' := 25) rfl (fun T23 h23 P23 W23 => ?_)
  have G24 := G17.wr W23
  have G25 := G18.other W23 (Or.inr (slot_ne (C := "com/example/user_data_sweeper/userdatasweeper/Option") (Or.inr (hw _ (List.mem_of_getElem? (i := 39) rfl))) (Or.inr (hw _ (List.mem_of_getElem? (i := 45) rfl))) (by decide) (t := (.object "java/lang/String")) (by decide) (t' := .boolean) (by decide)))
  have G26 := G19.other W23 (Or.inr (slot_ne (C := "com/example/user_data_sweeper/userdatasweeper/Option") (Or.inr (hw _ (List.mem_of_getElem? (i := 41) rfl))) (Or.inr (hw _ (List.mem_of_getElem? (i := 45) rfl))) (by decide) (t := (.object "java/lang/String")) (by decide) (t' := .boolean) (by decide)))
  have G27 := G20.other W23 (Or.inr (slot_ne (C := "com/example/user_data_sweeper/userdatasweeper/Option") (Or.inr (hw _ (List.mem_of_getElem? (i := 43) rfl))) (Or.inr (hw _ (List.mem_of_getElem? (i := 45) rfl))) (by decide) (t := (.object "java/lang/String")) (by decide) (t' := .boolean) (by decide)))
  have G28 := G21.same W23
  have G29 := G22.other W23 (Or.inr (slot_ne (C := "com/example/user_data_sweeper/userdatasweeper/Option") (Or.inr (hw _ (List.mem_of_getElem? (i := 47) rfl))) (Or.inr (hw _ (List.mem_of_getElem? (i := 45) rfl))) (by decide) (t := .boolean) (by decide) (t' := .boolean) (by decide)))
  refine blk C P23 [.aload_n 0, .iload 5] (by decide +kernel) (pc' := 28) (L' := [.val (.ref a), .val (.ref nm), .val (.null), .val (.null), .val (.int r1), .val (.int r2)]) (S' := [.int r2, .ref a]) rfl ?_
  refine s_putf C P23 (idx := 23) (by decide +kernel) (hw _ (List.mem_of_getElem? (i := 46) rfl)) B.1 G29 G24 (hw _ (List.mem_of_getElem? (i := 47) rfl)) rfl (hw _ (List.mem_of_getElem? (i := 27) rfl)) (by decide) (ty := .boolean) (by decide) hr2.1 hr2.2 (pc' := 31) rfl (fun T30 h30 P30 W30 => ?_)
  have G31 := G24.wr W30
  have G32 := G25.other W30 (Or.inr (slot_ne (C := "com/example/user_data_sweeper/userdatasweeper/Option") (Or.inr (hw _ (List.mem_of_getElem? (i := 39) rfl))) (Or.inr (hw _ (List.mem_of_getElem? (i := 47) rfl))) (by decide) (t := (.object "java/lang/String")) (by decide) (t' := .boolean) (by decide)))
  have G33 := G26.other W30 (Or.inr (slot_ne (C := "com/example/user_data_sweeper/userdatasweeper/Option") (Or.inr (hw _ (List.mem_of_getElem? (i := 41) rfl))) (Or.inr (hw _ (List.mem_of_getElem? (i := 47) rfl))) (by decide) (t := (.object "java/lang/String")) (by decide) (t' := .boolean) (by decide)))
  have G34 := G27.other W30 (Or.inr (slot_ne (C := "com/example/user_data_sweeper/userdatasweeper/Option") (Or.inr (hw _ (List.mem_of_getElem? (i := 43) rfl))) (Or.inr (hw _ (List.mem_of_getElem? (i := 47) rfl))) (by decide) (t := (.object "java/lang/String")) (by decide) (t' := .boolean) (by decide)))
  have G35 := G28.other W30 (Or.inr (slot_ne (C := "com/example/user_data_sweeper/userdatasweeper/Option") (Or.inr (hw _ (List.mem_of_getElem? (i := 45) rfl))) (Or.inr (hw _ (List.mem_of_getElem? (i := 47) rfl))) (by decide) (t := .boolean) (by decide) (t' := .boolean) (by decide)))
  have G36 := G29.same W30
  exact r_void C P30 (by decide +kernel) (le_ _ _ rfl) (le_ _ _ rfl) ⟨rfl, ((((((Keep.refl h [a]).wr W2 (Or.inl (List.mem_singleton.mpr rfl))).wr W9 (Or.inl (List.mem_singleton.mpr rfl))).wr W16 (Or.inl (List.mem_singleton.mpr rfl))).wr W23 (Or.inl (List.mem_singleton.mpr rfl))).wr W30 (Or.inl (List.mem_singleton.mpr rfl))), G31, G33⟩
theorem k_opt_nr_ef (m : MethodId) (a nm : Addr) (g : Addr) (r1 r2 : Int32) : entryFrame m #[.ref a, .ref nm, .null, .ref g, .int r1, .int r2] 6 = fr m 0 [.val (.ref a), .val (.ref nm), .val (.null), .val (.ref g), .val (.int r1), .val (.int r2)] [] := by first | (simp [entryFrame, mkF, argsToLocals, Value.category]; done) | rfl
set_option maxRecDepth 65536 in
set_option maxHeartbeats 4000000 in
theorem k_opt_nr (l : Launch) {Z : State} {a0 : Array Value} {n0 : Nat} {h : Heap} {z : Int32} (wd : Wd Z a0 z) (a nm : Addr) (g : Addr) (r1 r2 : Int32)  (O : Old Z n0 h) (B : Blk Z a0 n0 h a "com/example/user_data_sweeper/userdatasweeper/Option") (hr1 : narrow .boolean (.int r1) = .int r1 ∧ fits .boolean (.int r1) = true) (hr2 : narrow .boolean (.int r2) = .int r2 ∧ fits .boolean (.int r2) = true) :
    Con l Z consts_1 n0 [] (⟨"com/example/user_data_sweeper/userdatasweeper/Option", "<init>", "(Ljava/lang/String;Ljava/lang/String;Ljava/lang/String;ZZ)V"⟩ : MethodName) prog_20_method_1_code 6 none ({ frames := 2, cells := 0, slots := 0, locals := 24 } : Room) #[.ref a, .ref nm, .null, .ref g, .int r1, .int r2] h (Ret0 fun h' => Keep h h' [a] ∧ Exa Z h' a "com/example/user_data_sweeper/userdatasweeper/Option" ∧ Fld Z h' a "com/example/user_data_sweeper/userdatasweeper/Option" "label" "Ljava/lang/String;" (.null)) := by
  obtain ⟨hw, hEL, Sz, hz⟩ := id wd
  refine Con.intro (plainFor_of_name (by first | (simp [plainName, overriddenIn]; done) | decide +kernel)) O hEL ?_
  intro p e s m below meth c T C hs P
  have C : Ctx Z a0 consts_1 p s m meth c "com/example/user_data_sweeper/userdatasweeper/Option" "<init>" prog_20_method_1_code 6 none := C
  refine Run.cast (k_opt_nr_ef m a nm g r1 r2) ?_
  refine blk C P [.aload_n 0] (by decide +kernel) (pc' := 1) (L' := [.val (.ref a), .val (.ref nm), .val (.null), .val (.ref g), .val (.int r1), .val (.int r2)]) (S' := [.ref a]) rfl ?_
  refine c_special C P (idx := 1) (y := (⟨"java/lang/Record", "<init>", "()V"⟩ : MethodName)) (ybytes := jdk_30_method_1_code) (ymax := 1) (yrm := ({ frames := 1, cells := 0, slots := 0, locals := 12 } : Room)) rfl (by decide +kernel) (hw _ (List.mem_of_getElem? (i := 32) rfl)) (hw _ (List.mem_of_getElem? (i := 33) rfl)) (hw _ (List.mem_of_getElem? (i := 35) rfl)) (hw _ (List.mem_of_getElem? (i := 36) rfl)) (by decide) [] [] (k_rec l wd a P.old ) (le_ _ _ rfl) (W := 0) (le_ _ _ rfl) (by decide +kernel : parseMethodDescriptor "()V" = some ⟨[], none⟩) rfl rfl rfl (le_ _ _ rfl) (le_ _ _ rfl) (le_ _ _ rfl) (pc' := 4) rfl (fun T1 h1 P1 Q1 => ?_)
  replace P1 := P1.more (k' := 0) (n' := 0) (le_ _ _ rfl) (le_ _ _ rfl)
  obtain rfl := Q1
  refine blk C P1 [.aload_n 0, .aload_n 1] (by decide +kernel) (pc' := 6) (L' := [.val (.ref a), .val (.ref nm), .val (.null), .val (.ref g), .val (.int r1), .val (.int r2)]) (S' := [.ref nm, .ref a]) rfl ?_
  refine s_putf C P1 (idx := 7) (by decide +kernel) (hw _ (List.mem_of_getElem? (i := 38) rfl)) B.1 (B.2.2 (Or.inr (hw _ (List.mem_of_getElem? (i := 39) rfl))) (ty := (.object "java/lang/String")) (by decide)) B.2.1 (hw _ (List.mem_of_getElem? (i := 39) rfl)) rfl (hw _ (List.mem_of_getElem? (i := 27) rfl)) (by decide) (ty := (.object "java/lang/String")) (by decide) rfl rfl (pc' := 9) rfl (fun T2 h2 P2 W2 => ?_)
  have G3 := B.2.1.wr W2
  have G4 := (B.2.2 (Or.inr (hw _ (List.mem_of_getElem? (i := 39) rfl))) (ty := (.object "java/lang/String")) (by decide)).same W2
  have G5 := (B.2.2 (Or.inr (hw _ (List.mem_of_getElem? (i := 41) rfl))) (ty := (.object "java/lang/String")) (by decide)).other W2 (Or.inr (slot_ne (C := "com/example/user_data_sweeper/userdatasweeper/Option") (Or.inr (hw _ (List.mem_of_getElem? (i := 41) rfl))) (Or.inr (hw _ (List.mem_of_getElem? (i := 39) rfl))) (by decide) (t := (.object "java/lang/String")) (by decide) (t' := (.object "java/lang/String")) (by decide)))
  have G6 := (B.2.2 (Or.inr (hw _ (List.mem_of_getElem? (i := 43) rfl))) (ty := (.object "java/lang/String")) (by decide)).other W2 (Or.inr (slot_ne (C := "com/example/user_data_sweeper/userdatasweeper/Option") (Or.inr (hw _ (List.mem_of_getElem? (i := 43) rfl))) (Or.inr (hw _ (List.mem_of_getElem? (i := 39) rfl))) (by decide) (t := (.object "java/lang/String")) (by decide) (t' := (.object "java/lang/String")) (by decide)))
  have G7 := (B.2.2 (Or.inr (hw _ (List.mem_of_getElem? (i := 45) rfl))) (ty := .boolean) (by decide)).other W2 (Or.inr (slot_ne (C := "com/example/user_data_sweeper/userdatasweeper/Option") (Or.inr (hw _ (List.mem_of_getElem? (i := 45) rfl))) (Or.inr (hw _ (List.mem_of_getElem? (i := 39) rfl))) (by decide) (t := .boolean) (by decide) (t' := (.object "java/lang/String")) (by decide)))
  have G8 := (B.2.2 (Or.inr (hw _ (List.mem_of_getElem? (i := 47) rfl))) (ty := .boolean) (by decide)).other W2 (Or.inr (slot_ne (C := "com/example/user_data_sweeper/userdatasweeper/Option") (Or.inr (hw _ (List.mem_of_getElem? (i := 47) rfl))) (Or.inr (hw _ (List.mem_of_getElem? (i := 39) rfl))) (by decide) (t := .boolean) (by decide) (t' := (.object "java/lang/String")) (by decide)))
  refine blk C P2 [.aload_n 0, .aload_n 2] (by decide +kernel) (pc' := 11) (L' := [.val (.ref a), .val (.ref nm), .val (.null), .val (.ref g), .val (.int r1), .val (.int r2)]) (S' := [.null, .ref a]) rfl ?_
  refine s_putf C P2 (idx := 13) (by decide +kernel) (hw _ (List.mem_of_getElem? (i := 40) rfl)) B.1 G5 G3 (hw _ (List.mem_of_getElem? (i := 41) rfl)) rfl (hw _ (List.mem_of_getElem? (i := 27) rfl)) (by decide) (ty := (.object "java/lang/String")) (by decide) rfl rfl (pc' := 14) rfl (fun T9 h9 P9 W9 => ?_)
  have G10 := G3.wr W9
  have G11 := G4.other W9 (Or.inr (slot_ne (C := "com/example/user_data_sweeper/userdatasweeper/Option") (Or.inr (hw _ (List.mem_of_getElem? (i := 39) rfl))) (Or.inr (hw _ (List.mem_of_getElem? (i := 41) rfl))) (by decide) (t := (.object "java/lang/String")) (by decide) (t' := (.object "java/lang/String")) (by decide)))
  have G12 := G5.same W9
  have G13 := G6.other W9 (Or.inr (slot_ne (C := "com/example/user_data_sweeper/userdatasweeper/Option") (Or.inr (hw _ (List.mem_of_getElem? (i := 43) rfl))) (Or.inr (hw _ (List.mem_of_getElem? (i := 41) rfl))) (by decide) (t := (.object "java/lang/String")) (by decide) (t' := (.object "java/lang/String")) (by decide)))
  have G14 := G7.other W9 (Or.inr (slot_ne (C := "com/example/user_data_sweeper/userdatasweeper/Option") (Or.inr (hw _ (List.mem_of_getElem? (i := 45) rfl))) (Or.inr (hw _ (List.mem_of_getElem? (i := 41) rfl))) (by decide) (t := .boolean) (by decide) (t' := (.object "java/lang/String")) (by decide)))
  have G15 := G8.other W9 (Or.inr (slot_ne (C := "com/example/user_data_sweeper/userdatasweeper/Option") (Or.inr (hw _ (List.mem_of_getElem? (i := 47) rfl))) (Or.inr (hw _ (List.mem_of_getElem? (i := 41) rfl))) (by decide) (t := .boolean) (by decide) (t' := (.object "java/lang/String")) (by decide)))
  refine blk C P9 [.aload_n 0, .aload_n 3] (by decide +kernel) (pc' := 16) (L' := [.val (.ref a), .val (.ref nm), .val (.null), .val (.ref g), .val (.int r1), .val (.int r2)]) (S' := [.ref g, .ref a]) rfl ?_
  refine s_putf C P9 (idx := 16) (by decide +kernel) (hw _ (List.mem_of_getElem? (i := 42) rfl)) B.1 G13 G10 (hw _ (List.mem_of_getElem? (i := 43) rfl)) rfl (hw _ (List.mem_of_getElem? (i := 27) rfl)) (by decide) (ty := (.object "java/lang/String")) (by decide) rfl rfl (pc' := 19) rfl (fun T16 h16 P16 W16 => ?_)
  have G17 := G10.wr W16
  have G18 := G11.other W16 (Or.inr (slot_ne (C := "com/example/user_data_sweeper/userdatasweeper/Option") (Or.inr (hw _ (List.mem_of_getElem? (i := 39) rfl))) (Or.inr (hw _ (List.mem_of_getElem? (i := 43) rfl))) (by decide) (t := (.object "java/lang/String")) (by decide) (t' := (.object "java/lang/String")) (by decide)))
  have G19 := G12.other W16 (Or.inr (slot_ne (C := "com/example/user_data_sweeper/userdatasweeper/Option") (Or.inr (hw _ (List.mem_of_getElem? (i := 41) rfl))) (Or.inr (hw _ (List.mem_of_getElem? (i := 43) rfl))) (by decide) (t := (.object "java/lang/String")) (by decide) (t' := (.object "java/lang/String")) (by decide)))
  have G20 := G13.same W16
  have G21 := G14.other W16 (Or.inr (slot_ne (C := "com/example/user_data_sweeper/userdatasweeper/Option") (Or.inr (hw _ (List.mem_of_getElem? (i := 45) rfl))) (Or.inr (hw _ (List.mem_of_getElem? (i := 43) rfl))) (by decide) (t := .boolean) (by decide) (t' := (.object "java/lang/String")) (by decide)))
  have G22 := G15.other W16 (Or.inr (slot_ne (C := "com/example/user_data_sweeper/userdatasweeper/Option") (Or.inr (hw _ (List.mem_of_getElem? (i := 47) rfl))) (Or.inr (hw _ (List.mem_of_getElem? (i := 43) rfl))) (by decide) (t := .boolean) (by decide) (t' := (.object "java/lang/String")) (by decide)))
  refine blk C P16 [.aload_n 0, .iload 4] (by decide +kernel) (pc' := 22) (L' := [.val (.ref a), .val (.ref nm), .val (.null), .val (.ref g), .val (.int r1), .val (.int r2)]) (S' := [.int r1, .ref a]) rfl ?_
  refine s_putf C P16 (idx := 19) (by decide +kernel) (hw _ (List.mem_of_getElem? (i := 44) rfl)) B.1 G21 G17 (hw _ (List.mem_of_getElem? (i := 45) rfl)) rfl (hw _ (List.mem_of_getElem? (i := 27) rfl)) (by decide) (ty := .boolean) (by decide) hr1.1 hr1.2 (pc' := 25) rfl (fun T23 h23 P23 W23 => ?_)
  have G24 := G17.wr W23
  have G25 := G18.other W23 (Or.inr (slot_ne (C := "com/example/user_data_sweeper/userdatasweeper/Option") (Or.inr (hw _ (List.mem_of_getElem? (i := 39) rfl))) (Or.inr (hw _ (List.mem_of_getElem? (i := 45) rfl))) (by decide) (t := (.object "java/lang/String")) (by decide) (t' := .boolean) (by decide)))
  have G26 := G19.other W23 (Or.inr (slot_ne (C := "com/example/user_data_sweeper/userdatasweeper/Option") (Or.inr (hw _ (List.mem_of_getElem? (i := 41) rfl))) (Or.inr (hw _ (List.mem_of_getElem? (i := 45) rfl))) (by decide) (t := (.object "java/lang/String")) (by decide) (t' := .boolean) (by decide)))
  have G27 := G20.other W23 (Or.inr (slot_ne (C := "com/example/user_data_sweeper/userdatasweeper/Option") (Or.inr (hw _ (List.mem_of_getElem? (i := 43) rfl))) (Or.inr (hw _ (List.mem_of_getElem? (i := 45) rfl))) (by decide) (t := (.object "java/lang/String")) (by decide) (t' := .boolean) (by decide)))
  have G28 := G21.same W23
  have G29 := G22.other W23 (Or.inr (slot_ne (C := "com/example/user_data_sweeper/userdatasweeper/Option") (Or.inr (hw _ (List.mem_of_getElem? (i := 47) rfl))) (Or.inr (hw _ (List.mem_of_getElem? (i := 45) rfl))) (by decide) (t := .boolean) (by decide) (t' := .boolean) (by decide)))
  refine blk C P23 [.aload_n 0, .iload 5] (by decide +kernel) (pc' := 28) (L' := [.val (.ref a), .val (.ref nm), .val (.null), .val (.ref g), .val (.int r1), .val (.int r2)]) (S' := [.int r2, .ref a]) rfl ?_
  refine s_putf C P23 (idx := 23) (by decide +kernel) (hw _ (List.mem_of_getElem? (i := 46) rfl)) B.1 G29 G24 (hw _ (List.mem_of_getElem? (i := 47) rfl)) rfl (hw _ (List.mem_of_getElem? (i := 27) rfl)) (by decide) (ty := .boolean) (by decide) hr2.1 hr2.2 (pc' := 31) rfl (fun T30 h30 P30 W30 => ?_)
  have G31 := G24.wr W30
  have G32 := G25.other W30 (Or.inr (slot_ne (C := "com/example/user_data_sweeper/userdatasweeper/Option") (Or.inr (hw _ (List.mem_of_getElem? (i := 39) rfl))) (Or.inr (hw _ (List.mem_of_getElem? (i := 47) rfl))) (by decide) (t := (.object "java/lang/String")) (by decide) (t' := .boolean) (by decide)))
  have G33 := G26.other W30 (Or.inr (slot_ne (C := "com/example/user_data_sweeper/userdatasweeper/Option") (Or.inr (hw _ (List.mem_of_getElem? (i := 41) rfl))) (Or.inr (hw _ (List.mem_of_getElem? (i := 47) rfl))) (by decide) (t := (.object "java/lang/String")) (by decide) (t' := .boolean) (by decide)))
  have G34 := G27.other W30 (Or.inr (slot_ne (C := "com/example/user_data_sweeper/userdatasweeper/Option") (Or.inr (hw _ (List.mem_of_getElem? (i := 43) rfl))) (Or.inr (hw _ (List.mem_of_getElem? (i := 47) rfl))) (by decide) (t := (.object "java/lang/String")) (by decide) (t' := .boolean) (by decide)))
  have G35 := G28.other W30 (Or.inr (slot_ne (C := "com/example/user_data_sweeper/userdatasweeper/Option") (Or.inr (hw _ (List.mem_of_getElem? (i := 45) rfl))) (Or.inr (hw _ (List.mem_of_getElem? (i := 47) rfl))) (by decide) (t := .boolean) (by decide) (t' := .boolean) (by decide)))
  have G36 := G29.same W30
  exact r_void C P30 (by decide +kernel) (le_ _ _ rfl) (le_ _ _ rfl) ⟨rfl, ((((((Keep.refl h [a]).wr W2 (Or.inl (List.mem_singleton.mpr rfl))).wr W9 (Or.inl (List.mem_singleton.mpr rfl))).wr W16 (Or.inl (List.mem_singleton.mpr rfl))).wr W23 (Or.inl (List.mem_singleton.mpr rfl))).wr W30 (Or.inl (List.mem_singleton.mpr rfl))), G31, G33⟩
theorem k_opt_rn_ef (m : MethodId) (a nm : Addr) (f : Addr) (r1 r2 : Int32) : entryFrame m #[.ref a, .ref nm, .ref f, .null, .int r1, .int r2] 6 = fr m 0 [.val (.ref a), .val (.ref nm), .val (.ref f), .val (.null), .val (.int r1), .val (.int r2)] [] := by first | (simp [entryFrame, mkF, argsToLocals, Value.category]; done) | rfl
set_option maxRecDepth 65536 in
set_option maxHeartbeats 4000000 in
theorem k_opt_rn (l : Launch) {Z : State} {a0 : Array Value} {n0 : Nat} {h : Heap} {z : Int32} (wd : Wd Z a0 z) (a nm : Addr) (f : Addr) (r1 r2 : Int32)  (O : Old Z n0 h) (B : Blk Z a0 n0 h a "com/example/user_data_sweeper/userdatasweeper/Option") (hr1 : narrow .boolean (.int r1) = .int r1 ∧ fits .boolean (.int r1) = true) (hr2 : narrow .boolean (.int r2) = .int r2 ∧ fits .boolean (.int r2) = true) :
    Con l Z consts_1 n0 [] (⟨"com/example/user_data_sweeper/userdatasweeper/Option", "<init>", "(Ljava/lang/String;Ljava/lang/String;Ljava/lang/String;ZZ)V"⟩ : MethodName) prog_20_method_1_code 6 none ({ frames := 2, cells := 0, slots := 0, locals := 24 } : Room) #[.ref a, .ref nm, .ref f, .null, .int r1, .int r2] h (Ret0 fun h' => Keep h h' [a] ∧ Exa Z h' a "com/example/user_data_sweeper/userdatasweeper/Option" ∧ Fld Z h' a "com/example/user_data_sweeper/userdatasweeper/Option" "label" "Ljava/lang/String;" (.ref f)) := by
  obtain ⟨hw, hEL, Sz, hz⟩ := id wd
  refine Con.intro (plainFor_of_name (by first | (simp [plainName, overriddenIn]; done) | decide +kernel)) O hEL ?_
  intro p e s m below meth c T C hs P
  have C : Ctx Z a0 consts_1 p s m meth c "com/example/user_data_sweeper/userdatasweeper/Option" "<init>" prog_20_method_1_code 6 none := C
  refine Run.cast (k_opt_rn_ef m a nm f r1 r2) ?_
  refine blk C P [.aload_n 0] (by decide +kernel) (pc' := 1) (L' := [.val (.ref a), .val (.ref nm), .val (.ref f), .val (.null), .val (.int r1), .val (.int r2)]) (S' := [.ref a]) rfl ?_
  refine c_special C P (idx := 1) (y := (⟨"java/lang/Record", "<init>", "()V"⟩ : MethodName)) (ybytes := jdk_30_method_1_code) (ymax := 1) (yrm := ({ frames := 1, cells := 0, slots := 0, locals := 12 } : Room)) rfl (by decide +kernel) (hw _ (List.mem_of_getElem? (i := 32) rfl)) (hw _ (List.mem_of_getElem? (i := 33) rfl)) (hw _ (List.mem_of_getElem? (i := 35) rfl)) (hw _ (List.mem_of_getElem? (i := 36) rfl)) (by decide) [] [] (k_rec l wd a P.old ) (le_ _ _ rfl) (W := 0) (le_ _ _ rfl) (by decide +kernel : parseMethodDescriptor "()V" = some ⟨[], none⟩) rfl rfl rfl (le_ _ _ rfl) (le_ _ _ rfl) (le_ _ _ rfl) (pc' := 4) rfl (fun T1 h1 P1 Q1 => ?_)
  replace P1 := P1.more (k' := 0) (n' := 0) (le_ _ _ rfl) (le_ _ _ rfl)
  obtain rfl := Q1
  refine blk C P1 [.aload_n 0, .aload_n 1] (by decide +kernel) (pc' := 6) (L' := [.val (.ref a), .val (.ref nm), .val (.ref f), .val (.null), .val (.int r1), .val (.int r2)]) (S' := [.ref nm, .ref a]) rfl ?_
  refine s_putf C P1 (idx := 7) (by decide +kernel) (hw _ (List.mem_of_getElem? (i := 38) rfl)) B.1 (B.2.2 (Or.inr (hw _ (List.mem_of_getElem? (i := 39) rfl))) (ty := (.object "java/lang/String")) (by decide)) B.2.1 (hw _ (List.mem_of_getElem? (i := 39) rfl)) rfl (hw _ (List.mem_of_getElem? (i := 27) rfl)) (by decide) (ty := (.object "java/lang/String")) (by decide) rfl rfl (pc' := 9) rfl (fun T2 h2 P2 W2 => ?_)
  have G3 := B.2.1.wr W2
  have G4 := (B.2.2 (Or.inr (hw _ (List.mem_of_getElem? (i := 39) rfl))) (ty := (.object "java/lang/String")) (by decide)).same W2
  have G5 := (B.2.2 (Or.inr (hw _ (List.mem_of_getElem? (i := 41) rfl))) (ty := (.object "java/lang/String")) (by decide)).other W2 (Or.inr (slot_ne (C := "com/example/user_data_sweeper/userdatasweeper/Option") (Or.inr (hw _ (List.mem_of_getElem? (i := 41) rfl))) (Or.inr (hw _ (List.mem_of_getElem? (i := 39) rfl))) (by decide) (t := (.object "java/lang/String")) (by decide) (t' := (.object "java/lang/String")) (by decide)))
  have G6 := (B.2.2 (Or.inr (hw _ (List.mem_of_getElem? (i := 43) rfl))) (ty := (.object "java/lang/String")) (by decide)).other W2 (Or.inr (slot_ne (C := "com/example/user_data_sweeper/userdatasweeper/Option") (Or.inr (hw _ (List.mem_of_getElem? (i := 43) rfl))) (Or.inr (hw _ (List.mem_of_getElem? (i := 39) rfl))) (by decide) (t := (.object "java/lang/String")) (by decide) (t' := (.object "java/lang/String")) (by decide)))
  have G7 := (B.2.2 (Or.inr (hw _ (List.mem_of_getElem? (i := 45) rfl))) (ty := .boolean) (by decide)).other W2 (Or.inr (slot_ne (C := "com/example/user_data_sweeper/userdatasweeper/Option") (Or.inr (hw _ (List.mem_of_getElem? (i := 45) rfl))) (Or.inr (hw _ (List.mem_of_getElem? (i := 39) rfl))) (by decide) (t := .boolean) (by decide) (t' := (.object "java/lang/String")) (by decide)))
  have G8 := (B.2.2 (Or.inr (hw _ (List.mem_of_getElem? (i := 47) rfl))) (ty := .boolean) (by decide)).other W2 (Or.inr (slot_ne (C := "com/example/user_data_sweeper/userdatasweeper/Option") (Or.inr (hw _ (List.mem_of_getElem? (i := 47) rfl))) (Or.inr (hw _ (List.mem_of_getElem? (i := 39) rfl))) (by decide) (t := .boolean) (by decide) (t' := (.object "java/lang/String")) (by decide)))
  refine blk C P2 [.aload_n 0, .aload_n 2] (by decide +kernel) (pc' := 11) (L' := [.val (.ref a), .val (.ref nm), .val (.ref f), .val (.null), .val (.int r1), .val (.int r2)]) (S' := [.ref f, .ref a]) rfl ?_
  refine s_putf C P2 (idx := 13) (by decide +kernel) (hw _ (List.mem_of_getElem? (i := 40) rfl)) B.1 G5 G3 (hw _ (List.mem_of_getElem? (i := 41) rfl)) rfl (hw _ (List.mem_of_getElem? (i := 27) rfl)) (by decide) (ty := (.object "java/lang/String")) (by decide) rfl rfl (pc' := 14) rfl (fun T9 h9 P9 W9 => ?_)
  have G10 := G3.wr W9
  have G11 := G4.other W9 (Or.inr (slot_ne (C := "com/example/user_data_sweeper/userdatasweeper/Option") (Or.inr (hw _ (List.mem_of_getElem? (i := 39) rfl))) (Or.inr (hw _ (List.mem_of_getElem? (i := 41) rfl))) (by decide) (t := (.object "java/lang/String")) (by decide) (t' := (.object "java/lang/String")) (by decide)))
  have G12 := G5.same W9
  have G13 := G6.other W9 (Or.inr (slot_ne (C := "com/example/user_data_sweeper/userdatasweeper/Option") (Or.inr (hw _ (List.mem_of_getElem? (i := 43) rfl))) (Or.inr (hw _ (List.mem_of_getElem? (i := 41) rfl))) (by decide) (t := (.object "java/lang/String")) (by decide) (t' := (.object "java/lang/String")) (by decide)))
  have G14 := G7.other W9 (Or.inr (slot_ne (C := "com/example/user_data_sweeper/userdatasweeper/Option") (Or.inr (hw _ (List.mem_of_getElem? (i := 45) rfl))) (Or.inr (hw _ (List.mem_of_getElem? (i := 41) rfl))) (by decide) (t := .boolean) (by decide) (t' := (.object "java/lang/String")) (by decide)))
  have G15 := G8.other W9 (Or.inr (slot_ne (C := "com/example/user_data_sweeper/userdatasweeper/Option") (Or.inr (hw _ (List.mem_of_getElem? (i := 47) rfl))) (Or.inr (hw _ (List.mem_of_getElem? (i := 41) rfl))) (by decide) (t := .boolean) (by decide) (t' := (.object "java/lang/String")) (by decide)))
  refine blk C P9 [.aload_n 0, .aload_n 3] (by decide +kernel) (pc' := 16) (L' := [.val (.ref a), .val (.ref nm), .val (.ref f), .val (.null), .val (.int r1), .val (.int r2)]) (S' := [.null, .ref a]) rfl ?_
  refine s_putf C P9 (idx := 16) (by decide +kernel) (hw _ (List.mem_of_getElem? (i := 42) rfl)) B.1 G13 G10 (hw _ (List.mem_of_getElem? (i := 43) rfl)) rfl (hw _ (List.mem_of_getElem? (i := 27) rfl)) (by decide) (ty := (.object "java/lang/String")) (by decide) rfl rfl (pc' := 19) rfl (fun T16 h16 P16 W16 => ?_)
  have G17 := G10.wr W16
  have G18 := G11.other W16 (Or.inr (slot_ne (C := "com/example/user_data_sweeper/userdatasweeper/Option") (Or.inr (hw _ (List.mem_of_getElem? (i := 39) rfl))) (Or.inr (hw _ (List.mem_of_getElem? (i := 43) rfl))) (by decide) (t := (.object "java/lang/String")) (by decide) (t' := (.object "java/lang/String")) (by decide)))
  have G19 := G12.other W16 (Or.inr (slot_ne (C := "com/example/user_data_sweeper/userdatasweeper/Option") (Or.inr (hw _ (List.mem_of_getElem? (i := 41) rfl))) (Or.inr (hw _ (List.mem_of_getElem? (i := 43) rfl))) (by decide) (t := (.object "java/lang/String")) (by decide) (t' := (.object "java/lang/String")) (by decide)))
  have G20 := G13.same W16
  have G21 := G14.other W16 (Or.inr (slot_ne (C := "com/example/user_data_sweeper/userdatasweeper/Option") (Or.inr (hw _ (List.mem_of_getElem? (i := 45) rfl))) (Or.inr (hw _ (List.mem_of_getElem? (i := 43) rfl))) (by decide) (t := .boolean) (by decide) (t' := (.object "java/lang/String")) (by decide)))
  have G22 := G15.other W16 (Or.inr (slot_ne (C := "com/example/user_data_sweeper/userdatasweeper/Option") (Or.inr (hw _ (List.mem_of_getElem? (i := 47) rfl))) (Or.inr (hw _ (List.mem_of_getElem? (i := 43) rfl))) (by decide) (t := .boolean) (by decide) (t' := (.object "java/lang/String")) (by decide)))
  refine blk C P16 [.aload_n 0, .iload 4] (by decide +kernel) (pc' := 22) (L' := [.val (.ref a), .val (.ref nm), .val (.ref f), .val (.null), .val (.int r1), .val (.int r2)]) (S' := [.int r1, .ref a]) rfl ?_
  refine s_putf C P16 (idx := 19) (by decide +kernel) (hw _ (List.mem_of_getElem? (i := 44) rfl)) B.1 G21 G17 (hw _ (List.mem_of_getElem? (i := 45) rfl)) rfl (hw _ (List.mem_of_getElem? (i := 27) rfl)) (by decide) (ty := .boolean) (by decide) hr1.1 hr1.2 (pc' := 25) rfl (fun T23 h23 P23 W23 => ?_)
  have G24 := G17.wr W23
  have G25 := G18.other W23 (Or.inr (slot_ne (C := "com/example/user_data_sweeper/userdatasweeper/Option") (Or.inr (hw _ (List.mem_of_getElem? (i := 39) rfl))) (Or.inr (hw _ (List.mem_of_getElem? (i := 45) rfl))) (by decide) (t := (.object "java/lang/String")) (by decide) (t' := .boolean) (by decide)))
  have G26 := G19.other W23 (Or.inr (slot_ne (C := "com/example/user_data_sweeper/userdatasweeper/Option") (Or.inr (hw _ (List.mem_of_getElem? (i := 41) rfl))) (Or.inr (hw _ (List.mem_of_getElem? (i := 45) rfl))) (by decide) (t := (.object "java/lang/String")) (by decide) (t' := .boolean) (by decide)))
  have G27 := G20.other W23 (Or.inr (slot_ne (C := "com/example/user_data_sweeper/userdatasweeper/Option") (Or.inr (hw _ (List.mem_of_getElem? (i := 43) rfl))) (Or.inr (hw _ (List.mem_of_getElem? (i := 45) rfl))) (by decide) (t := (.object "java/lang/String")) (by decide) (t' := .boolean) (by decide)))
  have G28 := G21.same W23
  have G29 := G22.other W23 (Or.inr (slot_ne (C := "com/example/user_data_sweeper/userdatasweeper/Option") (Or.inr (hw _ (List.mem_of_getElem? (i := 47) rfl))) (Or.inr (hw _ (List.mem_of_getElem? (i := 45) rfl))) (by decide) (t := .boolean) (by decide) (t' := .boolean) (by decide)))
  refine blk C P23 [.aload_n 0, .iload 5] (by decide +kernel) (pc' := 28) (L' := [.val (.ref a), .val (.ref nm), .val (.ref f), .val (.null), .val (.int r1), .val (.int r2)]) (S' := [.int r2, .ref a]) rfl ?_
  refine s_putf C P23 (idx := 23) (by decide +kernel) (hw _ (List.mem_of_getElem? (i := 46) rfl)) B.1 G29 G24 (hw _ (List.mem_of_getElem? (i := 47) rfl)) rfl (hw _ (List.mem_of_getElem? (i := 27) rfl)) (by decide) (ty := .boolean) (by decide) hr2.1 hr2.2 (pc' := 31) rfl (fun T30 h30 P30 W30 => ?_)
  have G31 := G24.wr W30
  have G32 := G25.other W30 (Or.inr (slot_ne (C := "com/example/user_data_sweeper/userdatasweeper/Option") (Or.inr (hw _ (List.mem_of_getElem? (i := 39) rfl))) (Or.inr (hw _ (List.mem_of_getElem? (i := 47) rfl))) (by decide) (t := (.object "java/lang/String")) (by decide) (t' := .boolean) (by decide)))
  have G33 := G26.other W30 (Or.inr (slot_ne (C := "com/example/user_data_sweeper/userdatasweeper/Option") (Or.inr (hw _ (List.mem_of_getElem? (i := 41) rfl))) (Or.inr (hw _ (List.mem_of_getElem? (i := 47) rfl))) (by decide) (t := (.object "java/lang/String")) (by decide) (t' := .boolean) (by decide)))
  have G34 := G27.other W30 (Or.inr (slot_ne (C := "com/example/user_data_sweeper/userdatasweeper/Option") (Or.inr (hw _ (List.mem_of_getElem? (i := 43) rfl))) (Or.inr (hw _ (List.mem_of_getElem? (i := 47) rfl))) (by decide) (t := (.object "java/lang/String")) (by decide) (t' := .boolean) (by decide)))
  have G35 := G28.other W30 (Or.inr (slot_ne (C := "com/example/user_data_sweeper/userdatasweeper/Option") (Or.inr (hw _ (List.mem_of_getElem? (i := 45) rfl))) (Or.inr (hw _ (List.mem_of_getElem? (i := 47) rfl))) (by decide) (t := .boolean) (by decide) (t' := .boolean) (by decide)))
  have G36 := G29.same W30
  exact r_void C P30 (by decide +kernel) (le_ _ _ rfl) (le_ _ _ rfl) ⟨rfl, ((((((Keep.refl h [a]).wr W2 (Or.inl (List.mem_singleton.mpr rfl))).wr W9 (Or.inl (List.mem_singleton.mpr rfl))).wr W16 (Or.inl (List.mem_singleton.mpr rfl))).wr W23 (Or.inl (List.mem_singleton.mpr rfl))).wr W30 (Or.inl (List.mem_singleton.mpr rfl))), G31, G33⟩
theorem k_opt_rr_ef (m : MethodId) (a nm : Addr) (f : Addr) (g : Addr) (r1 r2 : Int32) : entryFrame m #[.ref a, .ref nm, .ref f, .ref g, .int r1, .int r2] 6 = fr m 0 [.val (.ref a), .val (.ref nm), .val (.ref f), .val (.ref g), .val (.int r1), .val (.int r2)] [] := by first | (simp [entryFrame, mkF, argsToLocals, Value.category]; done) | rfl
set_option maxRecDepth 65536 in
set_option maxHeartbeats 4000000 in
theorem k_opt_rr (l : Launch) {Z : State} {a0 : Array Value} {n0 : Nat} {h : Heap} {z : Int32} (wd : Wd Z a0 z) (a nm : Addr) (f : Addr) (g : Addr) (r1 r2 : Int32)  (O : Old Z n0 h) (B : Blk Z a0 n0 h a "com/example/user_data_sweeper/userdatasweeper/Option") (hr1 : narrow .boolean (.int r1) = .int r1 ∧ fits .boolean (.int r1) = true) (hr2 : narrow .boolean (.int r2) = .int r2 ∧ fits .boolean (.int r2) = true) :
    Con l Z consts_1 n0 [] (⟨"com/example/user_data_sweeper/userdatasweeper/Option", "<init>", "(Ljava/lang/String;Ljava/lang/String;Ljava/lang/String;ZZ)V"⟩ : MethodName) prog_20_method_1_code 6 none ({ frames := 2, cells := 0, slots := 0, locals := 24 } : Room) #[.ref a, .ref nm, .ref f, .ref g, .int r1, .int r2] h (Ret0 fun h' => Keep h h' [a] ∧ Exa Z h' a "com/example/user_data_sweeper/userdatasweeper/Option" ∧ Fld Z h' a "com/example/user_data_sweeper/userdatasweeper/Option" "label" "Ljava/lang/String;" (.ref f)) := by
  obtain ⟨hw, hEL, Sz, hz⟩ := id wd
  refine Con.intro (plainFor_of_name (by first | (simp [plainName, overriddenIn]; done) | decide +kernel)) O hEL ?_
  intro p e s m below meth c T C hs P
  have C : Ctx Z a0 consts_1 p s m meth c "com/example/user_data_sweeper/userdatasweeper/Option" "<init>" prog_20_method_1_code 6 none := C
  refine Run.cast (k_opt_rr_ef m a nm f g r1 r2) ?_
  refine blk C P [.aload_n 0] (by decide +kernel) (pc' := 1) (L' := [.val (.ref a), .val (.ref nm), .val (.ref f), .val (.ref g), .val (.int r1), .val (.int r2)]) (S' := [.ref a]) rfl ?_
  refine c_special C P (idx := 1) (y := (⟨"java/lang/Record", "<init>", "()V"⟩ : MethodName)) (ybytes := jdk_30_method_1_code) (ymax := 1) (yrm := ({ frames := 1, cells := 0, slots := 0, locals := 12 } : Room)) rfl (by decide +kernel) (hw _ (List.mem_of_getElem? (i := 32) rfl)) (hw _ (List.mem_of_getElem? (i := 33) rfl)) (hw _ (List.mem_of_getElem? (i := 35) rfl)) (hw _ (List.mem_of_getElem? (i := 36) rfl)) (by decide) [] [] (k_rec l wd a P.old ) (le_ _ _ rfl) (W := 0) (le_ _ _ rfl) (by decide +kernel : parseMethodDescriptor "()V" = some ⟨[], none⟩) rfl rfl rfl (le_ _ _ rfl) (le_ _ _ rfl) (le_ _ _ rfl) (pc' := 4) rfl (fun T1 h1 P1 Q1 => ?_)
  replace P1 := P1.more (k' := 0) (n' := 0) (le_ _ _ rfl) (le_ _ _ rfl)
  obtain rfl := Q1
  refine blk C P1 [.aload_n 0, .aload_n 1] (by decide +kernel) (pc' := 6) (L' := [.val (.ref a), .val (.ref nm), .val (.ref f), .val (.ref g), .val (.int r1), .val (.int r2)]) (S' := [.ref nm, .ref a]) rfl ?_
  refine s_putf C P1 (idx := 7) (by decide +kernel) (hw _ (List.mem_of_getElem? (i := 38) rfl)) B.1 (B.2.2 (Or.inr (hw _ (List.mem_of_getElem? (i := 39) rfl))) (ty := (.object "java/lang/String")) (by decide)) B.2.1 (hw _ (List.mem_of_getElem? (i := 39) rfl)) rfl (hw _ (List.mem_of_getElem? (i := 27) rfl)) (by decide) (ty := (.object "java/lang/String")) (by decide) rfl rfl (pc' := 9) rfl (fun T2 h2 P2 W2 => ?_)
  have G3 := B.2.1.wr W2
  have G4 := (B.2.2 (Or.inr (hw _ (List.mem_of_getElem? (i := 39) rfl))) (ty := (.object "java/lang/String")) (by decide)).same W2
  have G5 := (B.2.2 (Or.inr (hw _ (List.mem_of_getElem? (i := 41) rfl))) (ty := (.object "java/lang/String")) (by decide)).other W2 (Or.inr (slot_ne (C := "com/example/user_data_sweeper/userdatasweeper/Option") (Or.inr (hw _ (List.mem_of_getElem? (i := 41) rfl))) (Or.inr (hw _ (List.mem_of_getElem? (i := 39) rfl))) (by decide) (t := (.object "java/lang/String")) (by decide) (t' := (.object "java/lang/String")) (by decide)))
  have G6 := (B.2.2 (Or.inr (hw _ (List.mem_of_getElem? (i := 43) rfl))) (ty := (.object "java/lang/String")) (by decide)).other W2 (Or.inr (slot_ne (C := "com/example/user_data_sweeper/userdatasweeper/Option") (Or.inr (hw _ (List.mem_of_getElem? (i := 43) rfl))) (Or.inr (hw _ (List.mem_of_getElem? (i := 39) rfl))) (by decide) (t := (.object "java/lang/String")) (by decide) (t' := (.object "java/lang/String")) (by decide)))
  have G7 := (B.2.2 (Or.inr (hw _ (List.mem_of_getElem? (i := 45) rfl))) (ty := .boolean) (by decide)).other W2 (Or.inr (slot_ne (C := "com/example/user_data_sweeper/userdatasweeper/Option") (Or.inr (hw _ (List.mem_of_getElem? (i := 45) rfl))) (Or.inr (hw _ (List.mem_of_getElem? (i := 39) rfl))) (by decide) (t := .boolean) (by decide) (t' := (.object "java/lang/String")) (by decide)))
  have G8 := (B.2.2 (Or.inr (hw _ (List.mem_of_getElem? (i := 47) rfl))) (ty := .boolean) (by decide)).other W2 (Or.inr (slot_ne (C := "com/example/user_data_sweeper/userdatasweeper/Option") (Or.inr (hw _ (List.mem_of_getElem? (i := 47) rfl))) (Or.inr (hw _ (List.mem_of_getElem? (i := 39) rfl))) (by decide) (t := .boolean) (by decide) (t' := (.object "java/lang/String")) (by decide)))
  refine blk C P2 [.aload_n 0, .aload_n 2] (by decide +kernel) (pc' := 11) (L' := [.val (.ref a), .val (.ref nm), .val (.ref f), .val (.ref g), .val (.int r1), .val (.int r2)]) (S' := [.ref f, .ref a]) rfl ?_
  refine s_putf C P2 (idx := 13) (by decide +kernel) (hw _ (List.mem_of_getElem? (i := 40) rfl)) B.1 G5 G3 (hw _ (List.mem_of_getElem? (i := 41) rfl)) rfl (hw _ (List.mem_of_getElem? (i := 27) rfl)) (by decide) (ty := (.object "java/lang/String")) (by decide) rfl rfl (pc' := 14) rfl (fun T9 h9 P9 W9 => ?_)
  have G10 := G3.wr W9
  have G11 := G4.other W9 (Or.inr (slot_ne (C := "com/example/user_data_sweeper/userdatasweeper/Option") (Or.inr (hw _ (List.mem_of_getElem? (i := 39) rfl))) (Or.inr (hw _ (List.mem_of_getElem? (i := 41) rfl))) (by decide) (t := (.object "java/lang/String")) (by decide) (t' := (.object "java/lang/String")) (by decide)))
  have G12 := G5.same W9
  have G13 := G6.other W9 (Or.inr (slot_ne (C := "com/example/user_data_sweeper/userdatasweeper/Option") (Or.inr (hw _ (List.mem_of_getElem? (i := 43) rfl))) (Or.inr (hw _ (List.mem_of_getElem? (i := 41) rfl))) (by decide) (t := (.object "java/lang/String")) (by decide) (t' := (.object "java/lang/String")) (by decide)))
  have G14 := G7.other W9 (Or.inr (slot_ne (C := "com/example/user_data_sweeper/userdatasweeper/Option") (Or.inr (hw _ (List.mem_of_getElem? (i := 45) rfl))) (Or.inr (hw _ (List.mem_of_getElem? (i := 41) rfl))) (by decide) (t := .boolean) (by decide) (t' := (.object "java/lang/String")) (by decide)))
  have G15 := G8.other W9 (Or.inr (slot_ne (C := "com/example/user_data_sweeper/userdatasweeper/Option") (Or.inr (hw _ (List.mem_of_getElem? (i := 47) rfl))) (Or.inr (hw _ (List.mem_of_getElem? (i := 41) rfl))) (by decide) (t := .boolean) (by decide) (t' := (.object "java/lang/String")) (by decide)))
  refine blk C P9 [.aload_n 0, .aload_n 3] (by decide +kernel) (pc' := 16) (L' := [.val (.ref a), .val (.ref nm), .val (.ref f), .val (.ref g), .val (.int r1), .val (.int r2)]) (S' := [.ref g, .ref a]) rfl ?_
  refine s_putf C P9 (idx := 16) (by decide +kernel) (hw _ (List.mem_of_getElem? (i := 42) rfl)) B.1 G13 G10 (hw _ (List.mem_of_getElem? (i := 43) rfl)) rfl (hw _ (List.mem_of_getElem? (i := 27) rfl)) (by decide) (ty := (.object "java/lang/String")) (by decide) rfl rfl (pc' := 19) rfl (fun T16 h16 P16 W16 => ?_)
  have G17 := G10.wr W16
  have G18 := G11.other W16 (Or.inr (slot_ne (C := "com/example/user_data_sweeper/userdatasweeper/Option") (Or.inr (hw _ (List.mem_of_getElem? (i := 39) rfl))) (Or.inr (hw _ (List.mem_of_getElem? (i := 43) rfl))) (by decide) (t := (.object "java/lang/String")) (by decide) (t' := (.object "java/lang/String")) (by decide)))
  have G19 := G12.other W16 (Or.inr (slot_ne (C := "com/example/user_data_sweeper/userdatasweeper/Option") (Or.inr (hw _ (List.mem_of_getElem? (i := 41) rfl))) (Or.inr (hw _ (List.mem_of_getElem? (i := 43) rfl))) (by decide) (t := (.object "java/lang/String")) (by decide) (t' := (.object "java/lang/String")) (by decide)))
  have G20 := G13.same W16
  have G21 := G14.other W16 (Or.inr (slot_ne (C := "com/example/user_data_sweeper/userdatasweeper/Option") (Or.inr (hw _ (List.mem_of_getElem? (i := 45) rfl))) (Or.inr (hw _ (List.mem_of_getElem? (i := 43) rfl))) (by decide) (t := .boolean) (by decide) (t' := (.object "java/lang/String")) (by decide)))
  have G22 := G15.other W16 (Or.inr (slot_ne (C := "com/example/user_data_sweeper/userdatasweeper/Option") (Or.inr (hw _ (List.mem_of_getElem? (i := 47) rfl))) (Or.inr (hw _ (List.mem_of_getElem? (i := 43) rfl))) (by decide) (t := .boolean) (by decide) (t' := (.object "java/lang/String")) (by decide)))
  refine blk C P16 [.aload_n 0, .iload 4] (by decide +kernel) (pc' := 22) (L' := [.val (.ref a), .val (.ref nm), .val (.ref f), .val (.ref g), .val (.int r1), .val (.int r2)]) (S' := [.int r1, .ref a]) rfl ?_
  refine s_putf C P16 (idx := 19) (by decide +kernel) (hw _ (List.mem_of_getElem? (i := 44) rfl)) B.1 G21 G17 (hw _ (List.mem_of_getElem? (i := 45) rfl)) rfl (hw _ (List.mem_of_getElem? (i := 27) rfl)) (by decide) (ty := .boolean) (by decide) hr1.1 hr1.2 (pc' := 25) rfl (fun T23 h23 P23 W23 => ?_)
  have G24 := G17.wr W23
  have G25 := G18.other W23 (Or.inr (slot_ne (C := "com/example/user_data_sweeper/userdatasweeper/Option") (Or.inr (hw _ (List.mem_of_getElem? (i := 39) rfl))) (Or.inr (hw _ (List.mem_of_getElem? (i := 45) rfl))) (by decide) (t := (.object "java/lang/String")) (by decide) (t' := .boolean) (by decide)))
  have G26 := G19.other W23 (Or.inr (slot_ne (C := "com/example/user_data_sweeper/userdatasweeper/Option") (Or.inr (hw _ (List.mem_of_getElem? (i := 41) rfl))) (Or.inr (hw _ (List.mem_of_getElem? (i := 45) rfl))) (by decide) (t := (.object "java/lang/String")) (by decide) (t' := .boolean) (by decide)))
  have G27 := G20.other W23 (Or.inr (slot_ne (C := "com/example/user_data_sweeper/userdatasweeper/Option") (Or.inr (hw _ (List.mem_of_getElem? (i := 43) rfl))) (Or.inr (hw _ (List.mem_of_getElem? (i := 45) rfl))) (by decide) (t := (.object "java/lang/String")) (by decide) (t' := .boolean) (by decide)))
  have G28 := G21.same W23
  have G29 := G22.other W23 (Or.inr (slot_ne (C := "com/example/user_data_sweeper/userdatasweeper/Option") (Or.inr (hw _ (List.mem_of_getElem? (i := 47) rfl))) (Or.inr (hw _ (List.mem_of_getElem? (i := 45) rfl))) (by decide) (t := .boolean) (by decide) (t' := .boolean) (by decide)))
  refine blk C P23 [.aload_n 0, .iload 5] (by decide +kernel) (pc' := 28) (L' := [.val (.ref a), .val (.ref nm), .val (.ref f), .val (.ref g), .val (.int r1), .val (.int r2)]) (S' := [.int r2, .ref a]) rfl ?_
  refine s_putf C P23 (idx := 23) (by decide +kernel) (hw _ (List.mem_of_getElem? (i := 46) rfl)) B.1 G29 G24 (hw _ (List.mem_of_getElem? (i := 47) rfl)) rfl (hw _ (List.mem_of_getElem? (i := 27) rfl)) (by decide) (ty := .boolean) (by decide) hr2.1 hr2.2 (pc' := 31) rfl (fun T30 h30 P30 W30 => ?_)
  have G31 := G24.wr W30
  have G32 := G25.other W30 (Or.inr (slot_ne (C := "com/example/user_data_sweeper/userdatasweeper/Option") (Or.inr (hw _ (List.mem_of_getElem? (i := 39) rfl))) (Or.inr (hw _ (List.mem_of_getElem? (i := 47) rfl))) (by decide) (t := (.object "java/lang/String")) (by decide) (t' := .boolean) (by decide)))
  have G33 := G26.other W30 (Or.inr (slot_ne (C := "com/example/user_data_sweeper/userdatasweeper/Option") (Or.inr (hw _ (List.mem_of_getElem? (i := 41) rfl))) (Or.inr (hw _ (List.mem_of_getElem? (i := 47) rfl))) (by decide) (t := (.object "java/lang/String")) (by decide) (t' := .boolean) (by decide)))
  have G34 := G27.other W30 (Or.inr (slot_ne (C := "com/example/user_data_sweeper/userdatasweeper/Option") (Or.inr (hw _ (List.mem_of_getElem? (i := 43) rfl))) (Or.inr (hw _ (List.mem_of_getElem? (i := 47) rfl))) (by decide) (t := (.object "java/lang/String")) (by decide) (t' := .boolean) (by decide)))
  have G35 := G28.other W30 (Or.inr (slot_ne (C := "com/example/user_data_sweeper/userdatasweeper/Option") (Or.inr (hw _ (List.mem_of_getElem? (i := 45) rfl))) (Or.inr (hw _ (List.mem_of_getElem? (i := 47) rfl))) (by decide) (t := .boolean) (by decide) (t' := .boolean) (by decide)))
  have G36 := G29.same W30
  exact r_void C P30 (by decide +kernel) (le_ _ _ rfl) (le_ _ _ rfl) ⟨rfl, ((((((Keep.refl h [a]).wr W2 (Or.inl (List.mem_singleton.mpr rfl))).wr W9 (Or.inl (List.mem_singleton.mpr rfl))).wr W16 (Or.inl (List.mem_singleton.mpr rfl))).wr W23 (Or.inl (List.mem_singleton.mpr rfl))).wr W30 (Or.inl (List.mem_singleton.mpr rfl))), G31, G33⟩
theorem k_isFlag_n_ef (m : MethodId) (a : Addr) : entryFrame m #[.ref a] 1 = fr m 0 [.val (.ref a)] [] := by first | (simp [entryFrame, mkF, argsToLocals, Value.category]; done) | rfl
set_option maxRecDepth 65536 in
set_option maxHeartbeats 4000000 in
theorem k_isFlag_n (l : Launch) {Z : State} {a0 : Array Value} {n0 : Nat} {h : Heap} {z : Int32} (wd : Wd Z a0 z) (a : Addr)  (O : Old Z n0 h) (G : Fld Z h a "com/example/user_data_sweeper/userdatasweeper/Option" "label" "Ljava/lang/String;" (.null)) :
    Con l Z consts_1 n0 [] (⟨"com/example/user_data_sweeper/userdatasweeper/Option", "isFlag", "()Z"⟩ : MethodName) prog_20_method_6_code 1 (some .boolean) ({ frames := 0, cells := 0, slots := 0, locals := 0 } : Room) #[.ref a] h (Ret1 fun v h' => v = .int 1 ∧ h = h') := by
  obtain ⟨hw, hEL, Sz, hz⟩ := id wd
  refine Con.intro (plainFor_of_name (by first | (simp [plainName, overriddenIn]; done) | decide +kernel)) O hEL ?_
  intro p e s m below meth c T C hs P
  have C : Ctx Z a0 consts_1 p s m meth c "com/example/user_data_sweeper/userdatasweeper/Option" "isFlag" prog_20_method_6_code 1 (some .boolean) := C
  refine Run.cast (k_isFlag_n_ef m a) ?_
  refine blk C P [.aload_n 0] (by decide +kernel) (pc' := 1) (L' := [.val (.ref a)]) (S' := [.ref a]) rfl ?_
  refine s_getf C P (idx := 13) (by decide +kernel) (hw _ (List.mem_of_getElem? (i := 40) rfl)) G (pc' := 4) rfl (fun T1 P1 => ?_)
  refine b_nonnullN C P1 (o := 7) (by decide +kernel) (pc' := 7) rfl ?_
  refine blk C P1 [.iconst 1] (by decide +kernel) (pc' := 8) (L' := [.val (.ref a)]) (S' := [.int (1 : Int32)]) rfl ?_
  refine b_goto C P1 (o := 4) (by decide +kernel) (pc' := 12) (by decide) ?_
  exact r_int C P1 (ty := .boolean) (by simp) rfl (by decide +kernel) (le_ _ _ rfl) (le_ _ _ rfl) ⟨_, rfl, rfl, rfl⟩
theorem k_flag_n_ef (m : MethodId) (nm : Addr) : entryFrame m #[.ref nm, .null] 2 = fr m 0 [.val (.ref nm), .val (.null)] [] := by first | (simp [entryFrame, mkF, argsToLocals, Value.category]; done) | rfl
set_option maxRecDepth 65536 in
set_option maxHeartbeats 4000000 in
theorem k_flag_n (l : Launch) {Z : State} {a0 : Array Value} {n0 : Nat} {h : Heap} {z : Int32} (wd : Wd Z a0 z) (nm : Addr)  (O : Old Z n0 h)  :
    Con l Z consts_1 n0 [] (⟨"com/example/user_data_sweeper/userdatasweeper/Option", "flag", "(Ljava/lang/String;Ljava/lang/String;)Lcom/example/user_data_sweeper/userdatasweeper/Option;"⟩ : MethodName) prog_20_method_5_code 2 (some (.object "com/example/user_data_sweeper/userdatasweeper/Option")) ({ frames := 3, cells := 1, slots := 5, locals := 42 } : Room) #[.ref nm, .null] h (Ret1 fun v h' => ∃ r, v = .ref r ∧ Ext h h' ∧ Exa Z h' r "com/example/user_data_sweeper/userdatasweeper/Option" ∧ Fld Z h' r "com/example/user_data_sweeper/userdatasweeper/Option" "label" "Ljava/lang/String;" .null) := by
  obtain ⟨hw, hEL, Sz, hz⟩ := id wd
  refine Con.intro (plainFor_of_name (by first | (simp [plainName, overriddenIn]; done) | decide +kernel)) O hEL ?_
  intro p e s m below meth c T C hs P
  have C : Ctx Z a0 consts_1 p s m meth c "com/example/user_data_sweeper/userdatasweeper/Option" "flag" prog_20_method_5_code 2 (some (.object "com/example/user_data_sweeper/userdatasweeper/Option")) := C
  refine Run.cast (k_flag_n_ef m nm) ?_
  refine s_new C P (idx := 8) (by decide +kernel) (hw _ (List.mem_of_getElem? (i := 51) rfl)) (hw _ (List.mem_of_getElem? (i := 27) rfl)) (hw _ (List.mem_of_getElem? (i := 28) rfl)) (le_ _ _ rfl) (le_ _ _ rfl) (pc' := 3) rfl (fun T1 h1 P1 E1 B1 => ?_)
  replace P1 := P1.more (k' := 1) (n' := 5) (le_ _ _ rfl) (le_ _ _ rfl)
  refine blk C P1 [.dup, .aload_n 0, .aconst_null, .aload_n 1, .iconst 0, .iconst 0] (by decide +kernel) (pc' := 9) (L' := [.val (.ref nm), .val (.null)]) (S' := [.int (0 : Int32), .int (0 : Int32), .null, .null, .ref nm, .ref h.size, .ref h.size]) rfl ?_
  refine c_special C P1 (idx := 26) (y := (⟨"com/example/user_data_sweeper/userdatasweeper/Option", "<init>", "(Ljava/lang/String;Ljava/lang/String;Ljava/lang/String;ZZ)V"⟩ : MethodName)) (ybytes := prog_20_method_1_code) (ymax := 6) (yrm := ({ frames := 2, cells := 0, slots := 0, locals := 24 } : Room)) rfl (by decide +kernel) (hw _ (List.mem_of_getElem? (i := 52) rfl)) (hw _ (List.mem_of_getElem? (i := 30) rfl)) (hw _ (List.mem_of_getElem? (i := 28) rfl)) (hw _ (List.mem_of_getElem? (i := 31) rfl)) (by decide) [.ref nm, .null, .null, .int (0 : Int32), .int (0 : Int32)] [.ref h.size] (k_opt_nn l wd (h.size) nm (0 : Int32) (0 : Int32) P1.old B1 ⟨rfl, rfl⟩ ⟨rfl, rfl⟩) (le_ _ _ rfl) (W := 1) (le_ _ _ rfl) (by decide +kernel : parseMethodDescriptor "(Ljava/lang/String;Ljava/lang/String;Ljava/lang/String;ZZ)V" = some ⟨[(.object "java/lang/String"), (.object "java/lang/String"), (.object "java/lang/String"), .boolean, .boolean], none⟩) rfl rfl rfl (le_ _ _ rfl) (le_ _ _ rfl) (le_ _ _ rfl) (pc' := 12) rfl (fun T2 h2 P2 Q2 => ?_)
  replace P2 := P2.more (k' := 1) (n' := 5) (le_ _ _ rfl) (le_ _ _ rfl)
  obtain ⟨K2, A2, F2_0⟩ := Q2
  exact r_ref C P2 (w := .ref h.size) rfl rfl (by decide +kernel) (le_ _ _ rfl) (le_ _ _ rfl) ⟨_, rfl, _, rfl, (exK E1 K2 (Nat.le_refl _)), A2, F2_0⟩
theorem k_isFlag_r_ef (m : MethodId) (a : Addr) (f : Addr) : entryFrame m #[.ref a] 1 = fr m 0 [.val (.ref a)] [] := by first | (simp [entryFrame, mkF, argsToLocals, Value.category]; done) | rfl
set_option maxRecDepth 65536 in
set_option maxHeartbeats 4000000 in
theorem k_isFlag_r (l : Launch) {Z : State} {a0 : Array Value} {n0 : Nat} {h : Heap} {z : Int32} (wd : Wd Z a0 z) (a : Addr) (f : Addr)  (O : Old Z n0 h) (G : Fld Z h a "com/example/user_data_sweeper/userdatasweeper/Option" "label" "Ljava/lang/String;" (.ref f)) :
    Con l Z consts_1 n0 [] (⟨"com/example/user_data_sweeper/userdatasweeper/Option", "isFlag", "()Z"⟩ : MethodName) prog_20_method_6_code 1 (some .boolean) ({ frames := 0, cells := 0, slots := 0, locals := 0 } : Room) #[.ref a] h (Ret1 fun v h' => v = .int 0 ∧ h = h') := by
  obtain ⟨hw, hEL, Sz, hz⟩ := id wd
  refine Con.intro (plainFor_of_name (by first | (simp [plainName, overriddenIn]; done) | decide +kernel)) O hEL ?_
  intro p e s m below meth c T C hs P
  have C : Ctx Z a0 consts_1 p s m meth c "com/example/user_data_sweeper/userdatasweeper/Option" "isFlag" prog_20_method_6_code 1 (some .boolean) := C
  refine Run.cast (k_isFlag_r_ef m a f) ?_
  refine blk C P [.aload_n 0] (by decide +kernel) (pc' := 1) (L' := [.val (.ref a)]) (S' := [.ref a]) rfl ?_
  refine s_getf C P (idx := 13) (by decide +kernel) (hw _ (List.mem_of_getElem? (i := 40) rfl)) G (pc' := 4) rfl (fun T1 P1 => ?_)
  refine b_nonnullY C P1 (o := 7) (by decide +kernel) (pc' := 11) (by decide) ?_
  refine blk C P1 [.iconst 0] (by decide +kernel) (pc' := 12) (L' := [.val (.ref a)]) (S' := [.int (0 : Int32)]) rfl ?_
  exact r_int C P1 (ty := .boolean) (by simp) rfl (by decide +kernel) (le_ _ _ rfl) (le_ _ _ rfl) ⟨_, rfl, rfl, rfl⟩
theorem k_flag_r_ef (m : MethodId) (nm : Addr) (f : Addr) : entryFrame m #[.ref nm, .ref f] 2 = fr m 0 [.val (.ref nm), .val (.ref f)] [] := by first | (simp [entryFrame, mkF, argsToLocals, Value.category]; done) | rfl
set_option maxRecDepth 65536 in
set_option maxHeartbeats 4000000 in
theorem k_flag_r (l : Launch) {Z : State} {a0 : Array Value} {n0 : Nat} {h : Heap} {z : Int32} (wd : Wd Z a0 z) (nm : Addr) (f : Addr)  (O : Old Z n0 h)  :
    Con l Z consts_1 n0 [] (⟨"com/example/user_data_sweeper/userdatasweeper/Option", "flag", "(Ljava/lang/String;Ljava/lang/String;)Lcom/example/user_data_sweeper/userdatasweeper/Option;"⟩ : MethodName) prog_20_method_5_code 2 (some (.object "com/example/user_data_sweeper/userdatasweeper/Option")) ({ frames := 3, cells := 1, slots := 5, locals := 42 } : Room) #[.ref nm, .ref f] h (Ret1 fun v h' => ∃ r, v = .ref r ∧ Ext h h' ∧ Exa Z h' r "com/example/user_data_sweeper/userdatasweeper/Option" ∧ Fld Z h' r "com/example/user_data_sweeper/userdatasweeper/Option" "label" "Ljava/lang/String;" .null) := by
  obtain ⟨hw, hEL, Sz, hz⟩ := id wd
  refine Con.intro (plainFor_of_name (by first | (simp [plainName, overriddenIn]; done) | decide +kernel)) O hEL ?_
  intro p e s m below meth c T C hs P
  have C : Ctx Z a0 consts_1 p s m meth c "com/example/user_data_sweeper/userdatasweeper/Option" "flag" prog_20_method_5_code 2 (some (.object "com/example/user_data_sweeper/userdatasweeper/Option")) := C
  refine Run.cast (k_flag_r_ef m nm f) ?_
  refine s_new C P (idx := 8) (by decide +kernel) (hw _ (List.mem_of_getElem? (i := 51) rfl)) (hw _ (List.mem_of_getElem? (i := 27) rfl)) (hw _ (List.mem_of_getElem? (i := 28) rfl)) (le_ _ _ rfl) (le_ _ _ rfl) (pc' := 3) rfl (fun T1 h1 P1 E1 B1 => ?_)
  replace P1 := P1.more (k' := 1) (n' := 5) (le_ _ _ rfl) (le_ _ _ rfl)
  refine blk C P1 [.dup, .aload_n 0, .aconst_null, .aload_n 1, .iconst 0, .iconst 0] (by decide +kernel) (pc' := 9) (L' := [.val (.ref nm), .val (.ref f)]) (S' := [.int (0 : Int32), .int (0 : Int32), .ref f, .null, .ref nm, .ref h.size, .ref h.size]) rfl ?_
  refine c_special C P1 (idx := 26) (y := (⟨"com/example/user_data_sweeper/userdatasweeper/Option", "<init>", "(Ljava/lang/String;Ljava/lang/String;Ljava/lang/String;ZZ)V"⟩ : MethodName)) (ybytes := prog_20_method_1_code) (ymax := 6) (yrm := ({ frames := 2, cells := 0, slots := 0, locals := 24 } : Room)) rfl (by decide +kernel) (hw _ (List.mem_of_getElem? (i := 52) rfl)) (hw _ (List.mem_of_getElem? (i := 30) rfl)) (hw _ (List.mem_of_getElem? (i := 28) rfl)) (hw _ (List.mem_of_getElem? (i := 31) rfl)) (by decide) [.ref nm, .null, .ref f, .int (0 : Int32), .int (0 : Int32)] [.ref h.size] (k_opt_nr l wd (h.size) nm f (0 : Int32) (0 : Int32) P1.old B1 ⟨rfl, rfl⟩ ⟨rfl, rfl⟩) (le_ _ _ rfl) (W := 1) (le_ _ _ rfl) (by decide +kernel : parseMethodDescriptor "(Ljava/lang/String;Ljava/lang/String;Ljava/lang/String;ZZ)V" = some ⟨[(.object "java/lang/String"), (.object "java/lang/String"), (.object "java/lang/String"), .boolean, .boolean], none⟩) rfl rfl rfl (le_ _ _ rfl) (le_ _ _ rfl) (le_ _ _ rfl) (pc' := 12) rfl (fun T2 h2 P2 Q2 => ?_)
  replace P2 := P2.more (k' := 1) (n' := 5) (le_ _ _ rfl) (le_ _ _ rfl)
  obtain ⟨K2, A2, F2_0⟩ := Q2
  exact r_ref C P2 (w := .ref h.size) rfl rfl (by decide +kernel) (le_ _ _ rfl) (le_ _ _ rfl) ⟨_, rfl, _, rfl, (exK E1 K2 (Nat.le_refl _)), A2, F2_0⟩
theorem k_law_ef (m : MethodId) (x0 x1 x2 x3 : Int32) : entryFrame m #[.int x0, .int x1, .int x2, .int x3] maxLocals = fr m 0 [.val (.int x0), .val (.int x1), .val (.int x2), .val (.int x3), .unset, .unset, .unset, .unset, .unset, .unset, .unset, .unset] [] := by first | (simp [entryFrame, mkF, argsToLocals, Value.category, maxLocals]; done) | rfl
set_option maxRecDepth 65536 in
set_option maxHeartbeats 4000000 in
theorem k_law (l : Launch) {Z : State} {a0 : Array Value} {n0 : Nat} {h : Heap} {z : Int32} (wd : Wd Z a0 z) (x0 x1 x2 x3 : Int32)  (O : Old Z n0 h)  :
    Con l Z consts_1 n0 tables_1 x code maxLocals ret room_1 #[.int x0, .int x1, .int x2, .int x3] h (Ret1 fun v h' => v = .int 1) := by
  obtain ⟨hw, hEL, Sz, hz⟩ := id wd
  have wS : ∀ a ∈ Bundle.stringAtoms, a.before a0 Z = true := fun d hd => hw d ((by decide +kernel : ∀ d ∈ Bundle.stringAtoms, d ∈ tables_1) d hd)
  refine Con.intro (plainFor_of_name (by first | (simp [plainName, overriddenIn]; done) | decide +kernel)) O hEL ?_
  intro p e s m below meth c T C hs P
  have C : Ctx Z a0 consts_1 p s m meth c "com/example/user_data_sweeper/userdatasweeper/OptionIsFlagPinLaw" "law" code 12 (some .boolean) := C
  refine Run.cast (k_law_ef m x0 x1 x2 x3) ?_
  refine blk C P [.iload_n 0] (by decide +kernel) (pc' := 1) (L' := [.val (.int x0), .val (.int x1), .val (.int x2), .val (.int x3), .unset, .unset, .unset, .unset, .unset, .unset, .unset, .unset]) (S' := [.int x0]) rfl ?_
  refine c_static C P (idx := 16) (y := (⟨"com/example/user_data_sweeper/userdatasweeper/OptionIsFlagPinLaw", "draw", "(I)Ljava/lang/String;"⟩ : MethodName)) (ybytes := method_2_code) (ymax := 4) (yret := (some (.object "java/lang/String"))) (yrm := ({ frames := 4, cells := 4, slots := 12, locals := 66 } : Room)) (by decide +kernel) (hw _ (List.mem_of_getElem? (i := 0) rfl)) (hw _ (List.mem_of_getElem? (i := 1) rfl)) (hw _ (List.mem_of_getElem? (i := 2) rfl)) (hw _ (List.mem_of_getElem? (i := 3) rfl)) (by decide) [.int x0] [] (k_draw l wd x0 P.old ) (le_ _ _ rfl) (W := 0) (le_ _ _ rfl) (by decide +kernel : parseMethodDescriptor "(I)Ljava/lang/String;" = some ⟨[.int], some (.object "java/lang/String")⟩) rfl rfl rfl (le_ _ _ rfl) (le_ _ _ rfl) (le_ _ _ rfl) (pc' := 4) rfl (fun T1 h1 v1 P1 Q1 => ?_)
  replace P1 := P1.more (k' := 4) (n' := 12) (le_ _ _ rfl) (le_ _ _ rfl)
  obtain ⟨b1, rfl, E1, S1⟩ := Q1
  refine blk C P1 [.astore 4, .iload_n 3, .iconst 3, .iand, .istore 5, .iload 5] (by decide +kernel) (pc' := 13) (L' := [.val (.int x0), .val (.int x1), .val (.int x2), .val (.int x3), .val (.ref b1), .val (.int (x3 &&& (3 : Int32))), .unset, .unset, .unset, .unset, .unset, .unset]) (S' := [.int (x3 &&& (3 : Int32))]) rfl ?_
  refine b_if C P1 (cd := .ne) (o := 9) (by decide +kernel) (pc' := 22) (by decide) (pn := 16) rfl (fun (q2 : ¬ (x3 &&& (3 : Int32)) = 0) => ?_) (fun (q2 : (x3 &&& (3 : Int32)) = 0) => ?_)
  · skip
    refine blk C P1 [.iload 5, .iconst 1] (by decide +kernel) (pc' := 25) (L' := [.val (.int x0), .val (.int x1), .val (.int x2), .val (.int x3), .val (.ref b1), .val (.int (x3 &&& (3 : Int32))), .unset, .unset, .unset, .unset, .unset, .unset]) (S' := [.int (1 : Int32), .int (x3 &&& (3 : Int32))]) rfl ?_
    refine b_cm C P1 (cd := .ne) (o := 18) (by decide +kernel) (pc' := 43) (by decide) (pn := 28) rfl (fun (q3 : ¬ (x3 &&& (3 : Int32)) = (1 : Int32)) => ?_) (fun (q3 : (x3 &&& (3 : Int32)) = (1 : Int32)) => ?_)
    · skip
      refine blk C P1 [.iload_n 1] (by decide +kernel) (pc' := 44) (L' := [.val (.int x0), .val (.int x1), .val (.int x2), .val (.int x3), .val (.ref b1), .val (.int (x3 &&& (3 : Int32))), .unset, .unset, .unset, .unset, .unset, .unset]) (S' := [.int x1]) rfl ?_
      refine c_static C P1 (idx := 16) (y := (⟨"com/example/user_data_sweeper/userdatasweeper/OptionIsFlagPinLaw", "draw", "(I)Ljava/lang/String;"⟩ : MethodName)) (ybytes := method_2_code) (ymax := 4) (yret := (some (.object "java/lang/String"))) (yrm := ({ frames := 4, cells := 4, slots := 12, locals := 66 } : Room)) (by decide +kernel) (hw _ (List.mem_of_getElem? (i := 0) rfl)) (hw _ (List.mem_of_getElem? (i := 1) rfl)) (hw _ (List.mem_of_getElem? (i := 2) rfl)) (hw _ (List.mem_of_getElem? (i := 3) rfl)) (by decide) [.int x1] [] (k_draw l wd x1 P1.old ) (le_ _ _ rfl) (W := 0) (le_ _ _ rfl) (by decide +kernel : parseMethodDescriptor "(I)Ljava/lang/String;" = some ⟨[.int], some (.object "java/lang/String")⟩) rfl rfl rfl (le_ _ _ rfl) (le_ _ _ rfl) (le_ _ _ rfl) (pc' := 47) rfl (fun T4 h4 v4 P4 Q4 => ?_)
      replace P4 := P4.more (k' := 8) (n' := 24) (le_ _ _ rfl) (le_ _ _ rfl)
      obtain ⟨b4, rfl, E4, S4⟩ := Q4
      refine blk C P4 [.astore 6, .iload_n 3, .iconst 2, .iushr, .iconst 1, .iand] (by decide +kernel) (pc' := 54) (L' := [.val (.int x0), .val (.int x1), .val (.int x2), .val (.int x3), .val (.ref b1), .val (.int (x3 &&& (3 : Int32))), .val (.ref b4), .unset, .unset, .unset, .unset, .unset]) (S' := [.int ((XT.ushr x3 (2 : Int32)) &&& (1 : Int32))]) rfl ?_
      refine b_if C P4 (cd := .eq) (o := 7) (by decide +kernel) (pc' := 61) (by decide) (pn := 57) rfl (fun (q5 : ((XT.ushr x3 (2 : Int32)) &&& (1 : Int32)) = 0) => ?_) (fun (q5 : ¬ ((XT.ushr x3 (2 : Int32)) &&& (1 : Int32)) = 0) => ?_)
      · skip
        refine blk C P4 [.iload_n 2] (by decide +kernel) (pc' := 62) (L' := [.val (.int x0), .val (.int x1), .val (.int x2), .val (.int x3), .val (.ref b1), .val (.int (x3 &&& (3 : Int32))), .val (.ref b4), .unset, .unset, .unset, .unset, .unset]) (S' := [.int x2]) rfl ?_
        refine c_static C P4 (idx := 16) (y := (⟨"com/example/user_data_sweeper/userdatasweeper/OptionIsFlagPinLaw", "draw", "(I)Ljava/lang/String;"⟩ : MethodName)) (ybytes := method_2_code) (ymax := 4) (yret := (some (.object "java/lang/String"))) (yrm := ({ frames := 4, cells := 4, slots := 12, locals := 66 } : Room)) (by decide +kernel) (hw _ (List.mem_of_getElem? (i := 0) rfl)) (hw _ (List.mem_of_getElem? (i := 1) rfl)) (hw _ (List.mem_of_getElem? (i := 2) rfl)) (hw _ (List.mem_of_getElem? (i := 3) rfl)) (by decide) [.int x2] [] (k_draw l wd x2 P4.old ) (le_ _ _ rfl) (W := 0) (le_ _ _ rfl) (by decide +kernel : parseMethodDescriptor "(I)Ljava/lang/String;" = some ⟨[.int], some (.object "java/lang/String")⟩) rfl rfl rfl (le_ _ _ rfl) (le_ _ _ rfl) (le_ _ _ rfl) (pc' := 65) rfl (fun T6 h6 v6 P6 Q6 => ?_)
        replace P6 := P6.more (k' := 12) (n' := 36) (le_ _ _ rfl) (le_ _ _ rfl)
        obtain ⟨b6, rfl, E6, S6⟩ := Q6
        refine blk C P6 [.astore 7, .iload_n 3, .iconst 3, .iushr, .iconst 1, .iand] (by decide +kernel) (pc' := 72) (L' := [.val (.int x0), .val (.int x1), .val (.int x2), .val (.int x3), .val (.ref b1), .val (.int (x3 &&& (3 : Int32))), .val (.ref b4), .val (.ref b6), .unset, .unset, .unset, .unset]) (S' := [.int ((XT.ushr x3 (3 : Int32)) &&& (1 : Int32))]) rfl ?_
        refine b_if C P6 (cd := .eq) (o := 7) (by decide +kernel) (pc' := 79) (by decide) (pn := 75) rfl (fun (q7 : ((XT.ushr x3 (3 : Int32)) &&& (1 : Int32)) = 0) => ?_) (fun (q7 : ¬ ((XT.ushr x3 (3 : Int32)) &&& (1 : Int32)) = 0) => ?_)
        · skip
          refine blk C P6 [.iconst 0, .istore 8, .iload_n 3, .iconst 4, .iushr, .iconst 1, .iand] (by decide +kernel) (pc' := 87) (L' := [.val (.int x0), .val (.int x1), .val (.int x2), .val (.int x3), .val (.ref b1), .val (.int (x3 &&& (3 : Int32))), .val (.ref b4), .val (.ref b6), .val (.int (0 : Int32)), .unset, .unset, .unset]) (S' := [.int ((XT.ushr x3 (4 : Int32)) &&& (1 : Int32))]) rfl ?_
          refine b_if C P6 (cd := .eq) (o := 7) (by decide +kernel) (pc' := 94) (by decide) (pn := 90) rfl (fun (q8 : ((XT.ushr x3 (4 : Int32)) &&& (1 : Int32)) = 0) => ?_) (fun (q8 : ¬ ((XT.ushr x3 (4 : Int32)) &&& (1 : Int32)) = 0) => ?_)
          · skip
            refine blk C P6 [.iconst 0, .istore 9] (by decide +kernel) (pc' := 97) (L' := [.val (.int x0), .val (.int x1), .val (.int x2), .val (.int x3), .val (.ref b1), .val (.int (x3 &&& (3 : Int32))), .val (.ref b4), .val (.ref b6), .val (.int (0 : Int32)), .val (.int (0 : Int32)), .unset, .unset]) (S' := []) rfl ?_
            refine s_new C P6 (idx := 22) (by decide +kernel) (hw _ (List.mem_of_getElem? (i := 26) rfl)) (hw _ (List.mem_of_getElem? (i := 27) rfl)) (hw _ (List.mem_of_getElem? (i := 28) rfl)) (le_ _ _ rfl) (le_ _ _ rfl) (pc' := 100) rfl (fun T9 h9 P9 E9 B9 => ?_)
            replace P9 := P9.more (k' := 13) (n' := 41) (le_ _ _ rfl) (le_ _ _ rfl)
            refine blk C P9 [.dup, .aload 4, .aload 6, .aload 7, .iload 8, .iload 9] (by decide +kernel) (pc' := 111) (L' := [.val (.int x0), .val (.int x1), .val (.int x2), .val (.int x3), .val (.ref b1), .val (.int (x3 &&& (3 : Int32))), .val (.ref b4), .val (.ref b6), .val (.int (0 : Int32)), .val (.int (0 : Int32)), .unset, .unset]) (S' := [.int (0 : Int32), .int (0 : Int32), .ref b6, .ref b4, .ref b1, .ref h6.size, .ref h6.size]) rfl ?_
            refine c_special C P9 (idx := 24) (y := (⟨"com/example/user_data_sweeper/userdatasweeper/Option", "<init>", "(Ljava/lang/String;Ljava/lang/String;Ljava/lang/String;ZZ)V"⟩ : MethodName)) (ybytes := prog_20_method_1_code) (ymax := 6) (yrm := ({ frames := 2, cells := 0, slots := 0, locals := 24 } : Room)) rfl (by decide +kernel) (hw _ (List.mem_of_getElem? (i := 29) rfl)) (hw _ (List.mem_of_getElem? (i := 30) rfl)) (hw _ (List.mem_of_getElem? (i := 28) rfl)) (hw _ (List.mem_of_getElem? (i := 31) rfl)) (by decide) [.ref b1, .ref b4, .ref b6, .int (0 : Int32), .int (0 : Int32)] [.ref h6.size] (k_opt_rr l wd (h6.size) b1 b4 b6 (0 : Int32) (0 : Int32) P9.old B9 ⟨rfl, rfl⟩ ⟨rfl, rfl⟩) (le_ _ _ rfl) (W := 1) (le_ _ _ rfl) (by decide +kernel : parseMethodDescriptor "(Ljava/lang/String;Ljava/lang/String;Ljava/lang/String;ZZ)V" = some ⟨[(.object "java/lang/String"), (.object "java/lang/String"), (.object "java/lang/String"), .boolean, .boolean], none⟩) rfl rfl rfl (le_ _ _ rfl) (le_ _ _ rfl) (le_ _ _ rfl) (pc' := 114) rfl (fun T10 h10 P10 Q10 => ?_)
            replace P10 := P10.more (k' := 13) (n' := 41) (le_ _ _ rfl) (le_ _ _ rfl)
            obtain ⟨K10, A10, F10_0⟩ := Q10
            refine blk C P10 [.astore 10, .aload 4, .aload 7] (by decide +kernel) (pc' := 120) (L' := [.val (.int x0), .val (.int x1), .val (.int x2), .val (.int x3), .val (.ref b1), .val (.int (x3 &&& (3 : Int32))), .val (.ref b4), .val (.ref b6), .val (.int (0 : Int32)), .val (.int (0 : Int32)), .val (.ref h6.size), .unset]) (S' := [.ref b6, .ref b1]) rfl ?_
            refine c_static C P10 (idx := 27) (y := (⟨"com/example/user_data_sweeper/userdatasweeper/Option", "flag", "(Ljava/lang/String;Ljava/lang/String;)Lcom/example/user_data_sweeper/userdatasweeper/Option;"⟩ : MethodName)) (ybytes := prog_20_method_5_code) (ymax := 2) (yret := (some (.object "com/example/user_data_sweeper/userdatasweeper/Option"))) (yrm := ({ frames := 3, cells := 1, slots := 5, locals := 42 } : Room)) (by decide +kernel) (hw _ (List.mem_of_getElem? (i := 48) rfl)) (hw _ (List.mem_of_getElem? (i := 49) rfl)) (hw _ (List.mem_of_getElem? (i := 28) rfl)) (hw _ (List.mem_of_getElem? (i := 50) rfl)) (by decide) [.ref b1, .ref b6] [] (k_flag_r l wd b1 b6 P10.old ) (le_ _ _ rfl) (W := 0) (le_ _ _ rfl) (by decide +kernel : parseMethodDescriptor "(Ljava/lang/String;Ljava/lang/String;)Lcom/example/user_data_sweeper/userdatasweeper/Option;" = some ⟨[(.object "java/lang/String"), (.object "java/lang/String")], some (.object "com/example/user_data_sweeper/userdatasweeper/Option")⟩) rfl rfl rfl (le_ _ _ rfl) (le_ _ _ rfl) (le_ _ _ rfl) (pc' := 123) rfl (fun T11 h11 v11 P11 Q11 => ?_)
            replace P11 := P11.more (k' := 14) (n' := 46) (le_ _ _ rfl) (le_ _ _ rfl)
            obtain ⟨b11, rfl, E11, A11, F11⟩ := Q11
            refine blk C P11 [.astore 11, .aload 10] (by decide +kernel) (pc' := 127) (L' := [.val (.int x0), .val (.int x1), .val (.int x2), .val (.int x3), .val (.ref b1), .val (.int (x3 &&& (3 : Int32))), .val (.ref b4), .val (.ref b6), .val (.int (0 : Int32)), .val (.int (0 : Int32)), .val (.ref h6.size), .val (.ref b11)]) (S' := [.ref h6.size]) rfl ?_
            refine c_virtual C P11 (idx := 31) (y := (⟨"com/example/user_data_sweeper/userdatasweeper/Option", "isFlag", "()Z"⟩ : MethodName)) (K0 := "com/example/user_data_sweeper/userdatasweeper/Option") (ybytes := prog_20_method_6_code) (ymax := 1) (yret := (some .boolean)) (yrm := ({ frames := 0, cells := 0, slots := 0, locals := 0 } : Room)) (by decide +kernel) (hw _ (List.mem_of_getElem? (i := 53) rfl)) (hw _ (List.mem_of_getElem? (i := 54) rfl)) (hw _ (List.mem_of_getElem? (i := 56) rfl)) (hw _ (List.mem_of_getElem? (i := 55) rfl)) (hw _ (List.mem_of_getElem? (i := 28) rfl)) (hw _ (List.mem_of_getElem? (i := 57) rfl)) (by decide) (A10.ext E11) [] [] (k_isFlag_r l wd (h6.size) b4 P11.old (F10_0.ext E11)) (le_ _ _ rfl) (W := 0) (le_ _ _ rfl) (by decide +kernel : parseMethodDescriptor "()Z" = some ⟨[], some .boolean⟩) rfl rfl rfl (le_ _ _ rfl) (le_ _ _ rfl) (le_ _ _ rfl) (pc' := 130) rfl (fun T12 h12 v12 P12 Q12 => ?_)
            replace P12 := P12.more (k' := 14) (n' := 46) (le_ _ _ rfl) (le_ _ _ rfl)
            obtain ⟨rfl, rfl⟩ := Q12
            refine blk C P12 [.aload 6] (by decide +kernel) (pc' := 132) (L' := [.val (.int x0), .val (.int x1), .val (.int x2), .val (.int x3), .val (.ref b1), .val (.int (x3 &&& (3 : Int32))), .val (.ref b4), .val (.ref b6), .val (.int (0 : Int32)), .val (.int (0 : Int32)), .val (.ref h6.size), .val (.ref b11)]) (S' := [.ref b4, .int (0 : Int32)]) rfl ?_
            refine b_nonnullY C P12 (o := 7) (by decide +kernel) (pc' := 139) (by decide) ?_
            refine blk C P12 [.iconst 0] (by decide +kernel) (pc' := 140) (L' := [.val (.int x0), .val (.int x1), .val (.int x2), .val (.int x3), .val (.ref b1), .val (.int (x3 &&& (3 : Int32))), .val (.ref b4), .val (.ref b6), .val (.int (0 : Int32)), .val (.int (0 : Int32)), .val (.ref h6.size), .val (.ref b11)]) (S' := [.int (0 : Int32), .int (0 : Int32)]) rfl ?_
            refine b_cmN C P12 (cd := .ne) (o := 15) (by decide +kernel) (pc' := 143) rfl (by decide : (0 : Int32) = (0 : Int32)) ?_
            refine blk C P12 [.aload 11] (by decide +kernel) (pc' := 145) (L' := [.val (.int x0), .val (.int x1), .val (.int x2), .val (.int x3), .val (.ref b1), .val (.int (x3 &&& (3 : Int32))), .val (.ref b4), .val (.ref b6), .val (.int (0 : Int32)), .val (.int (0 : Int32)), .val (.ref h6.size), .val (.ref b11)]) (S' := [.ref b11]) rfl ?_
            refine c_virtual C P12 (idx := 31) (y := (⟨"com/example/user_data_sweeper/userdatasweeper/Option", "isFlag", "()Z"⟩ : MethodName)) (K0 := "com/example/user_data_sweeper/userdatasweeper/Option") (ybytes := prog_20_method_6_code) (ymax := 1) (yret := (some .boolean)) (yrm := ({ frames := 0, cells := 0, slots := 0, locals := 0 } : Room)) (by decide +kernel) (hw _ (List.mem_of_getElem? (i := 53) rfl)) (hw _ (List.mem_of_getElem? (i := 54) rfl)) (hw _ (List.mem_of_getElem? (i := 56) rfl)) (hw _ (List.mem_of_getElem? (i := 55) rfl)) (hw _ (List.mem_of_getElem? (i := 28) rfl)) (hw _ (List.mem_of_getElem? (i := 57) rfl)) (by decide) A11 [] [] (k_isFlag_n l wd b11 P12.old F11) (le_ _ _ rfl) (W := 0) (le_ _ _ rfl) (by decide +kernel : parseMethodDescriptor "()Z" = some ⟨[], some .boolean⟩) rfl rfl rfl (le_ _ _ rfl) (le_ _ _ rfl) (le_ _ _ rfl) (pc' := 148) rfl (fun T13 h13 v13 P13 Q13 => ?_)
            replace P13 := P13.more (k' := 14) (n' := 46) (le_ _ _ rfl) (le_ _ _ rfl)
            obtain ⟨rfl, rfl⟩ := Q13
            refine b_ifN C P13 (cd := .eq) (o := 7) (by decide +kernel) (pc' := 151) rfl (by decide : ¬ (1 : Int32) = 0) ?_
            refine blk C P13 [.iconst 1] (by decide +kernel) (pc' := 152) (L' := [.val (.int x0), .val (.int x1), .val (.int x2), .val (.int x3), .val (.ref b1), .val (.int (x3 &&& (3 : Int32))), .val (.ref b4), .val (.ref b6), .val (.int (0 : Int32)), .val (.int (0 : Int32)), .val (.ref h6.size), .val (.ref b11)]) (S' := [.int (1 : Int32)]) rfl ?_
            refine b_goto C P13 (o := 4) (by decide +kernel) (pc' := 156) (by decide) ?_
            exact r_int C P13 (ty := .boolean) (by simp) rfl (by decide +kernel) (le_ _ _ rfl) (le_ _ _ rfl) ⟨_, rfl, rfl⟩
          · skip
            refine blk C P6 [.iconst 1] (by decide +kernel) (pc' := 91) (L' := [.val (.int x0), .val (.int x1), .val (.int x2), .val (.int x3), .val (.ref b1), .val (.int (x3 &&& (3 : Int32))), .val (.ref b4), .val (.ref b6), .val (.int (0 : Int32)), .unset, .unset, .unset]) (S' := [.int (1 : Int32)]) rfl ?_
            refine b_goto C P6 (o := 4) (by decide +kernel) (pc' := 95) (by decide) ?_
            refine blk C P6 [.istore 9] (by decide +kernel) (pc' := 97) (L' := [.val (.int x0), .val (.int x1), .val (.int x2), .val (.int x3), .val (.ref b1), .val (.int (x3 &&& (3 : Int32))), .val (.ref b4), .val (.ref b6), .val (.int (0 : Int32)), .val (.int (1 : Int32)), .unset, .unset]) (S' := []) rfl ?_
            refine s_new C P6 (idx := 22) (by decide +kernel) (hw _ (List.mem_of_getElem? (i := 26) rfl)) (hw _ (List.mem_of_getElem? (i := 27) rfl)) (hw _ (List.mem_of_getElem? (i := 28) rfl)) (le_ _ _ rfl) (le_ _ _ rfl) (pc' := 100) rfl (fun T14 h14 P14 E14 B14 => ?_)
            replace P14 := P14.more (k' := 13) (n' := 41) (le_ _ _ rfl) (le_ _ _ rfl)
            refine blk C P14 [.dup, .aload 4, .aload 6, .aload 7, .iload 8, .iload 9] (by decide +kernel) (pc' := 111) (L' := [.val (.int x0), .val (.int x1), .val (.int x2), .val (.int x3), .val (.ref b1), .val (.int (x3 &&& (3 : Int32))), .val (.ref b4), .val (.ref b6), .val (.int (0 : Int32)), .val (.int (1 : Int32)), .unset, .unset]) (S' := [.int (1 : Int32), .int (0 : Int32), .ref b6, .ref b4, .ref b1, .ref h6.size, .ref h6.size]) rfl ?_
            refine c_special C P14 (idx := 24) (y := (⟨"com/example/user_data_sweeper/userdatasweeper/Option", "<init>", "(Ljava/lang/String;Ljava/lang/String;Ljava/lang/String;ZZ)V"⟩ : MethodName)) (ybytes := prog_20_method_1_code) (ymax := 6) (yrm := ({ frames := 2, cells := 0, slots := 0, locals := 24 } : Room)) rfl (by decide +kernel) (hw _ (List.mem_of_getElem? (i := 29) rfl)) (hw _ (List.mem_of_getElem? (i := 30) rfl)) (hw _ (List.mem_of_getElem? (i := 28) rfl)) (hw _ (List.mem_of_getElem? (i := 31) rfl)) (by decide) [.ref b1, .ref b4, .ref b6, .int (0 : Int32), .int (1 : Int32)] [.ref h6.size] (k_opt_rr l wd (h6.size) b1 b4 b6 (0 : Int32) (1 : Int32) P14.old B14 ⟨rfl, rfl⟩ ⟨rfl, rfl⟩) (le_ _ _ rfl) (W := 1) (le_ _ _ rfl) (by decide +kernel : parseMethodDescriptor "(Ljava/lang/String;Ljava/lang/String;Ljava/lang/String;ZZ)V" = some ⟨[(.object "java/lang/String"), (.object "java/lang/String"), (.object "java/lang/String"), .boolean, .boolean], none⟩) rfl rfl rfl (le_ _ _ rfl) (le_ _ _ rfl) (le_ _ _ rfl) (pc' := 114) rfl (fun T15 h15 P15 Q15 => ?_)
            replace P15 := P15.more (k' := 13) (n' := 41) (le_ _ _ rfl) (le_ _ _ rfl)
            obtain ⟨K15, A15, F15_0⟩ := Q15
            refine blk C P15 [.astore 10, .aload 4, .aload 7] (by decide +kernel) (pc' := 120) (L' := [.val (.int x0), .val (.int x1), .val (.int x2), .val (.int x3), .val (.ref b1), .val (.int (x3 &&& (3 : Int32))), .val (.ref b4), .val (.ref b6), .val (.int (0 : Int32)), .val (.int (1 : Int32)), .val (.ref h6.size), .unset]) (S' := [.ref b6, .ref b1]) rfl ?_
            refine c_static C P15 (idx := 27) (y := (⟨"com/example/user_data_sweeper/userdatasweeper/Option", "flag", "(Ljava/lang/String;Ljava/lang/String;)Lcom/example/user_data_sweeper/userdatasweeper/Option;"⟩ : MethodName)) (ybytes := prog_20_method_5_code) (ymax := 2) (yret := (some (.object "com/example/user_data_sweeper/userdatasweeper/Option"))) (yrm := ({ frames := 3, cells := 1, slots := 5, locals := 42 } : Room)) (by decide +kernel) (hw _ (List.mem_of_getElem? (i := 48) rfl)) (hw _ (List.mem_of_getElem? (i := 49) rfl)) (hw _ (List.mem_of_getElem? (i := 28) rfl)) (hw _ (List.mem_of_getElem? (i := 50) rfl)) (by decide) [.ref b1, .ref b6] [] (k_flag_r l wd b1 b6 P15.old ) (le_ _ _ rfl) (W := 0) (le_ _ _ rfl) (by decide +kernel : parseMethodDescriptor "(Ljava/lang/String;Ljava/lang/String;)Lcom/example/user_data_sweeper/userdatasweeper/Option;" = some ⟨[(.object "java/lang/String"), (.object "java/lang/String")], some (.object "com/example/user_data_sweeper/userdatasweeper/Option")⟩) rfl rfl rfl (le_ _ _ rfl) (le_ _ _ rfl) (le_ _ _ rfl) (pc' := 123) rfl (fun T16 h16 v16 P16 Q16 => ?_)
            replace P16 := P16.more (k' := 14) (n' := 46) (le_ _ _ rfl) (le_ _ _ rfl)
            obtain ⟨b16, rfl, E16, A16, F16⟩ := Q16
            refine blk C P16 [.astore 11, .aload 10] (by decide +kernel) (pc' := 127) (L' := [.val (.int x0), .val (.int x1), .val (.int x2), .val (.int x3), .val (.ref b1), .val (.int (x3 &&& (3 : Int32))), .val (.ref b4), .val (.ref b6), .val (.int (0 : Int32)), .val (.int (1 : Int32)), .val (.ref h6.size), .val (.ref b16)]) (S' := [.ref h6.size]) rfl ?_
            refine c_virtual C P16 (idx := 31) (y := (⟨"com/example/user_data_sweeper/userdatasweeper/Option", "isFlag", "()Z"⟩ : MethodName)) (K0 := "com/example/user_data_sweeper/userdatasweeper/Option") (ybytes := prog_20_method_6_code) (ymax := 1) (yret := (some .boolean)) (yrm := ({ frames := 0, cells := 0, slots := 0, locals := 0 } : Room)) (by decide +kernel) (hw _ (List.mem_of_getElem? (i := 53) rfl)) (hw _ (List.mem_of_getElem? (i := 54) rfl)) (hw _ (List.mem_of_getElem? (i := 56) rfl)) (hw _ (List.mem_of_getElem? (i := 55) rfl)) (hw _ (List.mem_of_getElem? (i := 28) rfl)) (hw _ (List.mem_of_getElem? (i := 57) rfl)) (by decide) (A15.ext E16) [] [] (k_isFlag_r l wd (h6.size) b4 P16.old (F15_0.ext E16)) (le_ _ _ rfl) (W := 0) (le_ _ _ rfl) (by decide +kernel : parseMethodDescriptor "()Z" = some ⟨[], some .boolean⟩) rfl rfl rfl (le_ _ _ rfl) (le_ _ _ rfl) (le_ _ _ rfl) (pc' := 130) rfl (fun T17 h17 v17 P17 Q17 => ?_)
            replace P17 := P17.more (k' := 14) (n' := 46) (le_ _ _ rfl) (le_ _ _ rfl)
            obtain ⟨rfl, rfl⟩ := Q17
            refine blk C P17 [.aload 6] (by decide +kernel) (pc' := 132) (L' := [.val (.int x0), .val (.int x1), .val (.int x2), .val (.int x3), .val (.ref b1), .val (.int (x3 &&& (3 : Int32))), .val (.ref b4), .val (.ref b6), .val (.int (0 : Int32)), .val (.int (1 : Int32)), .val (.ref h6.size), .val (.ref b16)]) (S' := [.ref b4, .int (0 : Int32)]) rfl ?_
            refine b_nonnullY C P17 (o := 7) (by decide +kernel) (pc' := 139) (by decide) ?_
            refine blk C P17 [.iconst 0] (by decide +kernel) (pc' := 140) (L' := [.val (.int x0), .val (.int x1), .val (.int x2), .val (.int x3), .val (.ref b1), .val (.int (x3 &&& (3 : Int32))), .val (.ref b4), .val (.ref b6), .val (.int (0 : Int32)), .val (.int (1 : Int32)), .val (.ref h6.size), .val (.ref b16)]) (S' := [.int (0 : Int32), .int (0 : Int32)]) rfl ?_
            refine b_cmN C P17 (cd := .ne) (o := 15) (by decide +kernel) (pc' := 143) rfl (by decide : (0 : Int32) = (0 : Int32)) ?_
            refine blk C P17 [.aload 11] (by decide +kernel) (pc' := 145) (L' := [.val (.int x0), .val (.int x1), .val (.int x2), .val (.int x3), .val (.ref b1), .val (.int (x3 &&& (3 : Int32))), .val (.ref b4), .val (.ref b6), .val (.int (0 : Int32)), .val (.int (1 : Int32)), .val (.ref h6.size), .val (.ref b16)]) (S' := [.ref b16]) rfl ?_
            refine c_virtual C P17 (idx := 31) (y := (⟨"com/example/user_data_sweeper/userdatasweeper/Option", "isFlag", "()Z"⟩ : MethodName)) (K0 := "com/example/user_data_sweeper/userdatasweeper/Option") (ybytes := prog_20_method_6_code) (ymax := 1) (yret := (some .boolean)) (yrm := ({ frames := 0, cells := 0, slots := 0, locals := 0 } : Room)) (by decide +kernel) (hw _ (List.mem_of_getElem? (i := 53) rfl)) (hw _ (List.mem_of_getElem? (i := 54) rfl)) (hw _ (List.mem_of_getElem? (i := 56) rfl)) (hw _ (List.mem_of_getElem? (i := 55) rfl)) (hw _ (List.mem_of_getElem? (i := 28) rfl)) (hw _ (List.mem_of_getElem? (i := 57) rfl)) (by decide) A16 [] [] (k_isFlag_n l wd b16 P17.old F16) (le_ _ _ rfl) (W := 0) (le_ _ _ rfl) (by decide +kernel : parseMethodDescriptor "()Z" = some ⟨[], some .boolean⟩) rfl rfl rfl (le_ _ _ rfl) (le_ _ _ rfl) (le_ _ _ rfl) (pc' := 148) rfl (fun T18 h18 v18 P18 Q18 => ?_)
            replace P18 := P18.more (k' := 14) (n' := 46) (le_ _ _ rfl) (le_ _ _ rfl)
            obtain ⟨rfl, rfl⟩ := Q18
            refine b_ifN C P18 (cd := .eq) (o := 7) (by decide +kernel) (pc' := 151) rfl (by decide : ¬ (1 : Int32) = 0) ?_
            refine blk C P18 [.iconst 1] (by decide +kernel) (pc' := 152) (L' := [.val (.int x0), .val (.int x1), .val (.int x2), .val (.int x3), .val (.ref b1), .val (.int (x3 &&& (3 : Int32))), .val (.ref b4), .val (.ref b6), .val (.int (0 : Int32)), .val (.int (1 : Int32)), .val (.ref h6.size), .val (.ref b16)]) (S' := [.int (1 : Int32)]) rfl ?_
            refine b_goto C P18 (o := 4) (by decide +kernel) (pc' := 156) (by decide) ?_
            exact r_int C P18 (ty := .boolean) (by simp) rfl (by decide +kernel) (le_ _ _ rfl) (le_ _ _ rfl) ⟨_, rfl, rfl⟩
        · skip
          refine blk C P6 [.iconst 1] (by decide +kernel) (pc' := 76) (L' := [.val (.int x0), .val (.int x1), .val (.int x2), .val (.int x3), .val (.ref b1), .val (.int (x3 &&& (3 : Int32))), .val (.ref b4), .val (.ref b6), .unset, .unset, .unset, .unset]) (S' := [.int (1 : Int32)]) rfl ?_
          refine b_goto C P6 (o := 4) (by decide +kernel) (pc' := 80) (by decide) ?_
          refine blk C P6 [.istore 8, .iload_n 3, .iconst 4, .iushr, .iconst 1, .iand] (by decide +kernel) (pc' := 87) (L' := [.val (.int x0), .val (.int x1), .val (.int x2), .val (.int x3), .val (.ref b1), .val (.int (x3 &&& (3 : Int32))), .val (.ref b4), .val (.ref b6), .val (.int (1 : Int32)), .unset, .unset, .unset]) (S' := [.int ((XT.ushr x3 (4 : Int32)) &&& (1 : Int32))]) rfl ?_
          refine b_if C P6 (cd := .eq) (o := 7) (by decide +kernel) (pc' := 94) (by decide) (pn := 90) rfl (fun (q19 : ((XT.ushr x3 (4 : Int32)) &&& (1 : Int32)) = 0) => ?_) (fun (q19 : ¬ ((XT.ushr x3 (4 : Int32)) &&& (1 : Int32)) = 0) => ?_)
          · skip
            refine blk C P6 [.iconst 0, .istore 9] (by decide +kernel) (pc' := 97) (L' := [.val (.int x0), .val (.int x1), .val (.int x2), .val (.int x3), .val (.ref b1), .val (.int (x3 &&& (3 : Int32))), .val (.ref b4), .val (.ref b6), .val (.int (1 : Int32)), .val (.int (0 : Int32)), .unset, .unset]) (S' := []) rfl ?_
            refine s_new C P6 (idx := 22) (by decide +kernel) (hw _ (List.mem_of_getElem? (i := 26) rfl)) (hw _ (List.mem_of_getElem? (i := 27) rfl)) (hw _ (List.mem_of_getElem? (i := 28) rfl)) (le_ _ _ rfl) (le_ _ _ rfl) (pc' := 100) rfl (fun T20 h20 P20 E20 B20 => ?_)
            replace P20 := P20.more (k' := 13) (n' := 41) (le_ _ _ rfl) (le_ _ _ rfl)
            refine blk C P20 [.dup, .aload 4, .aload 6, .aload 7, .iload 8, .iload 9] (by decide +kernel) (pc' := 111) (L' := [.val (.int x0), .val (.int x1), .val (.int x2), .val (.int x3), .val (.ref b1), .val (.int (x3 &&& (3 : Int32))), .val (.ref b4), .val (.ref b6), .val (.int (1 : Int32)), .val (.int (0 : Int32)), .unset, .unset]) (S' := [.int (0 : Int32), .int (1 : Int32), .ref b6, .ref b4, .ref b1, .ref h6.size, .ref h6.size]) rfl ?_
            refine c_special C P20 (idx := 24) (y := (⟨"com/example/user_data_sweeper/userdatasweeper/Option", "<init>", "(Ljava/lang/String;Ljava/lang/String;Ljava/lang/String;ZZ)V"⟩ : MethodName)) (ybytes := prog_20_method_1_code) (ymax := 6) (yrm := ({ frames := 2, cells := 0, slots := 0, locals := 24 } : Room)) rfl (by decide +kernel) (hw _ (List.mem_of_getElem? (i := 29) rfl)) (hw _ (List.mem_of_getElem? (i := 30) rfl)) (hw _ (List.mem_of_getElem? (i := 28) rfl)) (hw _ (List.mem_of_getElem? (i := 31) rfl)) (by decide) [.ref b1, .ref b4, .ref b6, .int (1 : Int32), .int (0 : Int32)] [.ref h6.size] (k_opt_rr l wd (h6.size) b1 b4 b6 (1 : Int32) (0 : Int32) P20.old B20 ⟨rfl, rfl⟩ ⟨rfl, rfl⟩) (le_ _ _ rfl) (W := 1) (le_ _ _ rfl) (by decide +kernel : parseMethodDescriptor "(Ljava/lang/String;Ljava/lang/String;Ljava/lang/String;ZZ)V" = some ⟨[(.object "java/lang/String"), (.object "java/lang/String"), (.object "java/lang/String"), .boolean, .boolean], none⟩) rfl rfl rfl (le_ _ _ rfl) (le_ _ _ rfl) (le_ _ _ rfl) (pc' := 114) rfl (fun T21 h21 P21 Q21 => ?_)
            replace P21 := P21.more (k' := 13) (n' := 41) (le_ _ _ rfl) (le_ _ _ rfl)
            obtain ⟨K21, A21, F21_0⟩ := Q21
            refine blk C P21 [.astore 10, .aload 4, .aload 7] (by decide +kernel) (pc' := 120) (L' := [.val (.int x0), .val (.int x1), .val (.int x2), .val (.int x3), .val (.ref b1), .val (.int (x3 &&& (3 : Int32))), .val (.ref b4), .val (.ref b6), .val (.int (1 : Int32)), .val (.int (0 : Int32)), .val (.ref h6.size), .unset]) (S' := [.ref b6, .ref b1]) rfl ?_
            refine c_static C P21 (idx := 27) (y := (⟨"com/example/user_data_sweeper/userdatasweeper/Option", "flag", "(Ljava/lang/String;Ljava/lang/String;)Lcom/example/user_data_sweeper/userdatasweeper/Option;"⟩ : MethodName)) (ybytes := prog_20_method_5_code) (ymax := 2) (yret := (some (.object "com/example/user_data_sweeper/userdatasweeper/Option"))) (yrm := ({ frames := 3, cells := 1, slots := 5, locals := 42 } : Room)) (by decide +kernel) (hw _ (List.mem_of_getElem? (i := 48) rfl)) (hw _ (List.mem_of_getElem? (i := 49) rfl)) (hw _ (List.mem_of_getElem? (i := 28) rfl)) (hw _ (List.mem_of_getElem? (i := 50) rfl)) (by decide) [.ref b1, .ref b6] [] (k_flag_r l wd b1 b6 P21.old ) (le_ _ _ rfl) (W := 0) (le_ _ _ rfl) (by decide +kernel : parseMethodDescriptor "(Ljava/lang/String;Ljava/lang/String;)Lcom/example/user_data_sweeper/userdatasweeper/Option;" = some ⟨[(.object "java/lang/String"), (.object "java/lang/String")], some (.object "com/example/user_data_sweeper/userdatasweeper/Option")⟩) rfl rfl rfl (le_ _ _ rfl) (le_ _ _ rfl) (le_ _ _ rfl) (pc' := 123) rfl (fun T22 h22 v22 P22 Q22 => ?_)
            replace P22 := P22.more (k' := 14) (n' := 46) (le_ _ _ rfl) (le_ _ _ rfl)
            obtain ⟨b22, rfl, E22, A22, F22⟩ := Q22
            refine blk C P22 [.astore 11, .aload 10] (by decide +kernel) (pc' := 127) (L' := [.val (.int x0), .val (.int x1), .val (.int x2), .val (.int x3), .val (.ref b1), .val (.int (x3 &&& (3 : Int32))), .val (.ref b4), .val (.ref b6), .val (.int (1 : Int32)), .val (.int (0 : Int32)), .val (.ref h6.size), .val (.ref b22)]) (S' := [.ref h6.size]) rfl ?_
            refine c_virtual C P22 (idx := 31) (y := (⟨"com/example/user_data_sweeper/userdatasweeper/Option", "isFlag", "()Z"⟩ : MethodName)) (K0 := "com/example/user_data_sweeper/userdatasweeper/Option") (ybytes := prog_20_method_6_code) (ymax := 1) (yret := (some .boolean)) (yrm := ({ frames := 0, cells := 0, slots := 0, locals := 0 } : Room)) (by decide +kernel) (hw _ (List.mem_of_getElem? (i := 53) rfl)) (hw _ (List.mem_of_getElem? (i := 54) rfl)) (hw _ (List.mem_of_getElem? (i := 56) rfl)) (hw _ (List.mem_of_getElem? (i := 55) rfl)) (hw _ (List.mem_of_getElem? (i := 28) rfl)) (hw _ (List.mem_of_getElem? (i := 57) rfl)) (by decide) (A21.ext E22) [] [] (k_isFlag_r l wd (h6.size) b4 P22.old (F21_0.ext E22)) (le_ _ _ rfl) (W := 0) (le_ _ _ rfl) (by decide +kernel : parseMethodDescriptor "()Z" = some ⟨[], some .boolean⟩) rfl rfl rfl (le_ _ _ rfl) (le_ _ _ rfl) (le_ _ _ rfl) (pc' := 130) rfl (fun T23 h23 v23 P23 Q23 => ?_)
            replace P23 := P23.more (k' := 14) (n' := 46) (le_ _ _ rfl) (le_ _ _ rfl)
            obtain ⟨rfl, rfl⟩ := Q23
            refine blk C P23 [.aload 6] (by decide +kernel) (pc' := 132) (L' := [.val (.int x0), .val (.int x1), .val (.int x2), .val (.int x3), .val (.ref b1), .val (.int (x3 &&& (3 : Int32))), .val (.ref b4), .val (.ref b6), .val (.int (1 : Int32)), .val (.int (0 : Int32)), .val (.ref h6.size), .val (.ref b22)]) (S' := [.ref b4, .int (0 : Int32)]) rfl ?_
            refine b_nonnullY C P23 (o := 7) (by decide +kernel) (pc' := 139) (by decide) ?_
            refine blk C P23 [.iconst 0] (by decide +kernel) (pc' := 140) (L' := [.val (.int x0), .val (.int x1), .val (.int x2), .val (.int x3), .val (.ref b1), .val (.int (x3 &&& (3 : Int32))), .val (.ref b4), .val (.ref b6), .val (.int (1 : Int32)), .val (.int (0 : Int32)), .val (.ref h6.size), .val (.ref b22)]) (S' := [.int (0 : Int32), .int (0 : Int32)]) rfl ?_
            refine b_cmN C P23 (cd := .ne) (o := 15) (by decide +kernel) (pc' := 143) rfl (by decide : (0 : Int32) = (0 : Int32)) ?_
            refine blk C P23 [.aload 11] (by decide +kernel) (pc' := 145) (L' := [.val (.int x0), .val (.int x1), .val (.int x2), .val (.int x3), .val (.ref b1), .val (.int (x3 &&& (3 : Int32))), .val (.ref b4), .val (.ref b6), .val (.int (1 : Int32)), .val (.int (0 : Int32)), .val (.ref h6.size), .val (.ref b22)]) (S' := [.ref b22]) rfl ?_
            refine c_virtual C P23 (idx := 31) (y := (⟨"com/example/user_data_sweeper/userdatasweeper/Option", "isFlag", "()Z"⟩ : MethodName)) (K0 := "com/example/user_data_sweeper/userdatasweeper/Option") (ybytes := prog_20_method_6_code) (ymax := 1) (yret := (some .boolean)) (yrm := ({ frames := 0, cells := 0, slots := 0, locals := 0 } : Room)) (by decide +kernel) (hw _ (List.mem_of_getElem? (i := 53) rfl)) (hw _ (List.mem_of_getElem? (i := 54) rfl)) (hw _ (List.mem_of_getElem? (i := 56) rfl)) (hw _ (List.mem_of_getElem? (i := 55) rfl)) (hw _ (List.mem_of_getElem? (i := 28) rfl)) (hw _ (List.mem_of_getElem? (i := 57) rfl)) (by decide) A22 [] [] (k_isFlag_n l wd b22 P23.old F22) (le_ _ _ rfl) (W := 0) (le_ _ _ rfl) (by decide +kernel : parseMethodDescriptor "()Z" = some ⟨[], some .boolean⟩) rfl rfl rfl (le_ _ _ rfl) (le_ _ _ rfl) (le_ _ _ rfl) (pc' := 148) rfl (fun T24 h24 v24 P24 Q24 => ?_)
            replace P24 := P24.more (k' := 14) (n' := 46) (le_ _ _ rfl) (le_ _ _ rfl)
            obtain ⟨rfl, rfl⟩ := Q24
            refine b_ifN C P24 (cd := .eq) (o := 7) (by decide +kernel) (pc' := 151) rfl (by decide : ¬ (1 : Int32) = 0) ?_
            refine blk C P24 [.iconst 1] (by decide +kernel) (pc' := 152) (L' := [.val (.int x0), .val (.int x1), .val (.int x2), .val (.int x3), .val (.ref b1), .val (.int (x3 &&& (3 : Int32))), .val (.ref b4), .val (.ref b6), .val (.int (1 : Int32)), .val (.int (0 : Int32)), .val (.ref h6.size), .val (.ref b22)]) (S' := [.int (1 : Int32)]) rfl ?_
            refine b_goto C P24 (o := 4) (by decide +kernel) (pc' := 156) (by decide) ?_
            exact r_int C P24 (ty := .boolean) (by simp) rfl (by decide +kernel) (le_ _ _ rfl) (le_ _ _ rfl) ⟨_, rfl, rfl⟩
          · skip
            refine blk C P6 [.iconst 1] (by decide +kernel) (pc' := 91) (L' := [.val (.int x0), .val (.int x1), .val (.int x2), .val (.int x3), .val (.ref b1), .val (.int (x3 &&& (3 : Int32))), .val (.ref b4), .val (.ref b6), .val (.int (1 : Int32)), .unset, .unset, .unset]) (S' := [.int (1 : Int32)]) rfl ?_
            refine b_goto C P6 (o := 4) (by decide +kernel) (pc' := 95) (by decide) ?_
            refine blk C P6 [.istore 9] (by decide +kernel) (pc' := 97) (L' := [.val (.int x0), .val (.int x1), .val (.int x2), .val (.int x3), .val (.ref b1), .val (.int (x3 &&& (3 : Int32))), .val (.ref b4), .val (.ref b6), .val (.int (1 : Int32)), .val (.int (1 : Int32)), .unset, .unset]) (S' := []) rfl ?_
            refine s_new C P6 (idx := 22) (by decide +kernel) (hw _ (List.mem_of_getElem? (i := 26) rfl)) (hw _ (List.mem_of_getElem? (i := 27) rfl)) (hw _ (List.mem_of_getElem? (i := 28) rfl)) (le_ _ _ rfl) (le_ _ _ rfl) (pc' := 100) rfl (fun T25 h25 P25 E25 B25 => ?_)
            replace P25 := P25.more (k' := 13) (n' := 41) (le_ _ _ rfl) (le_ _ _ rfl)
            refine blk C P25 [.dup, .aload 4, .aload 6, .aload 7, .iload 8, .iload 9] (by decide +kernel) (pc' := 111) (L' := [.val (.int x0), .val (.int x1), .val (.int x2), .val (.int x3), .val (.ref b1), .val (.int (x3 &&& (3 : Int32))), .val (.ref b4), .val (.ref b6), .val (.int (1 : Int32)), .val (.int (1 : Int32)), .unset, .unset]) (S' := [.int (1 : Int32), .int (1 : Int32), .ref b6, .ref b4, .ref b1, .ref h6.size, .ref h6.size]) rfl ?_
            refine c_special C P25 (idx := 24) (y := (⟨"com/example/user_data_sweeper/userdatasweeper/Option", "<init>", "(Ljava/lang/String;Ljava/lang/String;Ljava/lang/String;ZZ)V"⟩ : MethodName)) (ybytes := prog_20_method_1_code) (ymax := 6) (yrm := ({ frames := 2, cells := 0, slots := 0, locals := 24 } : Room)) rfl (by decide +kernel) (hw _ (List.mem_of_getElem? (i := 29) rfl)) (hw _ (List.mem_of_getElem? (i := 30) rfl)) (hw _ (List.mem_of_getElem? (i := 28) rfl)) (hw _ (List.mem_of_getElem? (i := 31) rfl)) (by decide) [.ref b1, .ref b4, .ref b6, .int (1 : Int32), .int (1 : Int32)] [.ref h6.size] (k_opt_rr l wd (h6.size) b1 b4 b6 (1 : Int32) (1 : Int32) P25.old B25 ⟨rfl, rfl⟩ ⟨rfl, rfl⟩) (le_ _ _ rfl) (W := 1) (le_ _ _ rfl) (by decide +kernel : parseMethodDescriptor "(Ljava/lang/String;Ljava/lang/String;Ljava/lang/String;ZZ)V" = some ⟨[(.object "java/lang/String"), (.object "java/lang/String"), (.object "java/lang/String"), .boolean, .boolean], none⟩) rfl rfl rfl (le_ _ _ rfl) (le_ _ _ rfl) (le_ _ _ rfl) (pc' := 114) rfl (fun T26 h26 P26 Q26 => ?_)
            replace P26 := P26.more (k' := 13) (n' := 41) (le_ _ _ rfl) (le_ _ _ rfl)
            obtain ⟨K26, A26, F26_0⟩ := Q26
            refine blk C P26 [.astore 10, .aload 4, .aload 7] (by decide +kernel) (pc' := 120) (L' := [.val (.int x0), .val (.int x1), .val (.int x2), .val (.int x3), .val (.ref b1), .val (.int (x3 &&& (3 : Int32))), .val (.ref b4), .val (.ref b6), .val (.int (1 : Int32)), .val (.int (1 : Int32)), .val (.ref h6.size), .unset]) (S' := [.ref b6, .ref b1]) rfl ?_
            refine c_static C P26 (idx := 27) (y := (⟨"com/example/user_data_sweeper/userdatasweeper/Option", "flag", "(Ljava/lang/String;Ljava/lang/String;)Lcom/example/user_data_sweeper/userdatasweeper/Option;"⟩ : MethodName)) (ybytes := prog_20_method_5_code) (ymax := 2) (yret := (some (.object "com/example/user_data_sweeper/userdatasweeper/Option"))) (yrm := ({ frames := 3, cells := 1, slots := 5, locals := 42 } : Room)) (by decide +kernel) (hw _ (List.mem_of_getElem? (i := 48) rfl)) (hw _ (List.mem_of_getElem? (i := 49) rfl)) (hw _ (List.mem_of_getElem? (i := 28) rfl)) (hw _ (List.mem_of_getElem? (i := 50) rfl)) (by decide) [.ref b1, .ref b6] [] (k_flag_r l wd b1 b6 P26.old ) (le_ _ _ rfl) (W := 0) (le_ _ _ rfl) (by decide +kernel : parseMethodDescriptor "(Ljava/lang/String;Ljava/lang/String;)Lcom/example/user_data_sweeper/userdatasweeper/Option;" = some ⟨[(.object "java/lang/String"), (.object "java/lang/String")], some (.object "com/example/user_data_sweeper/userdatasweeper/Option")⟩) rfl rfl rfl (le_ _ _ rfl) (le_ _ _ rfl) (le_ _ _ rfl) (pc' := 123) rfl (fun T27 h27 v27 P27 Q27 => ?_)
            replace P27 := P27.more (k' := 14) (n' := 46) (le_ _ _ rfl) (le_ _ _ rfl)
            obtain ⟨b27, rfl, E27, A27, F27⟩ := Q27
            refine blk C P27 [.astore 11, .aload 10] (by decide +kernel) (pc' := 127) (L' := [.val (.int x0), .val (.int x1), .val (.int x2), .val (.int x3), .val (.ref b1), .val (.int (x3 &&& (3 : Int32))), .val (.ref b4), .val (.ref b6), .val (.int (1 : Int32)), .val (.int (1 : Int32)), .val (.ref h6.size), .val (.ref b27)]) (S' := [.ref h6.size]) rfl ?_
            refine c_virtual C P27 (idx := 31) (y := (⟨"com/example/user_data_sweeper/userdatasweeper/Option", "isFlag", "()Z"⟩ : MethodName)) (K0 := "com/example/user_data_sweeper/userdatasweeper/Option") (ybytes := prog_20_method_6_code) (ymax := 1) (yret := (some .boolean)) (yrm := ({ frames := 0, cells := 0, slots := 0, locals := 0 } : Room)) (by decide +kernel) (hw _ (List.mem_of_getElem? (i := 53) rfl)) (hw _ (List.mem_of_getElem? (i := 54) rfl)) (hw _ (List.mem_of_getElem? (i := 56) rfl)) (hw _ (List.mem_of_getElem? (i := 55) rfl)) (hw _ (List.mem_of_getElem? (i := 28) rfl)) (hw _ (List.mem_of_getElem? (i := 57) rfl)) (by decide) (A26.ext E27) [] [] (k_isFlag_r l wd (h6.size) b4 P27.old (F26_0.ext E27)) (le_ _ _ rfl) (W := 0) (le_ _ _ rfl) (by decide +kernel : parseMethodDescriptor "()Z" = some ⟨[], some .boolean⟩) rfl rfl rfl (le_ _ _ rfl) (le_ _ _ rfl) (le_ _ _ rfl) (pc' := 130) rfl (fun T28 h28 v28 P28 Q28 => ?_)
            replace P28 := P28.more (k' := 14) (n' := 46) (le_ _ _ rfl) (le_ _ _ rfl)
            obtain ⟨rfl, rfl⟩ := Q28
            refine blk C P28 [.aload 6] (by decide +kernel) (pc' := 132) (L' := [.val (.int x0), .val (.int x1), .val (.int x2), .val (.int x3), .val (.ref b1), .val (.int (x3 &&& (3 : Int32))), .val (.ref b4), .val (.ref b6), .val (.int (1 : Int32)), .val (.int (1 : Int32)), .val (.ref h6.size), .val (.ref b27)]) (S' := [.ref b4, .int (0 : Int32)]) rfl ?_
            refine b_nonnullY C P28 (o := 7) (by decide +kernel) (pc' := 139) (by decide) ?_
            refine blk C P28 [.iconst 0] (by decide +kernel) (pc' := 140) (L' := [.val (.int x0), .val (.int x1), .val (.int x2), .val (.int x3), .val (.ref b1), .val (.int (x3 &&& (3 : Int32))), .val (.ref b4), .val (.ref b6), .val (.int (1 : Int32)), .val (.int (1 : Int32)), .val (.ref h6.size), .val (.ref b27)]) (S' := [.int (0 : Int32), .int (0 : Int32)]) rfl ?_
            refine b_cmN C P28 (cd := .ne) (o := 15) (by decide +kernel) (pc' := 143) rfl (by decide : (0 : Int32) = (0 : Int32)) ?_
            refine blk C P28 [.aload 11] (by decide +kernel) (pc' := 145) (L' := [.val (.int x0), .val (.int x1), .val (.int x2), .val (.int x3), .val (.ref b1), .val (.int (x3 &&& (3 : Int32))), .val (.ref b4), .val (.ref b6), .val (.int (1 : Int32)), .val (.int (1 : Int32)), .val (.ref h6.size), .val (.ref b27)]) (S' := [.ref b27]) rfl ?_
            refine c_virtual C P28 (idx := 31) (y := (⟨"com/example/user_data_sweeper/userdatasweeper/Option", "isFlag", "()Z"⟩ : MethodName)) (K0 := "com/example/user_data_sweeper/userdatasweeper/Option") (ybytes := prog_20_method_6_code) (ymax := 1) (yret := (some .boolean)) (yrm := ({ frames := 0, cells := 0, slots := 0, locals := 0 } : Room)) (by decide +kernel) (hw _ (List.mem_of_getElem? (i := 53) rfl)) (hw _ (List.mem_of_getElem? (i := 54) rfl)) (hw _ (List.mem_of_getElem? (i := 56) rfl)) (hw _ (List.mem_of_getElem? (i := 55) rfl)) (hw _ (List.mem_of_getElem? (i := 28) rfl)) (hw _ (List.mem_of_getElem? (i := 57) rfl)) (by decide) A27 [] [] (k_isFlag_n l wd b27 P28.old F27) (le_ _ _ rfl) (W := 0) (le_ _ _ rfl) (by decide +kernel : parseMethodDescriptor "()Z" = some ⟨[], some .boolean⟩) rfl rfl rfl (le_ _ _ rfl) (le_ _ _ rfl) (le_ _ _ rfl) (pc' := 148) rfl (fun T29 h29 v29 P29 Q29 => ?_)
            replace P29 := P29.more (k' := 14) (n' := 46) (le_ _ _ rfl) (le_ _ _ rfl)
            obtain ⟨rfl, rfl⟩ := Q29
            refine b_ifN C P29 (cd := .eq) (o := 7) (by decide +kernel) (pc' := 151) rfl (by decide : ¬ (1 : Int32) = 0) ?_
            refine blk C P29 [.iconst 1] (by decide +kernel) (pc' := 152) (L' := [.val (.int x0), .val (.int x1), .val (.int x2), .val (.int x3), .val (.ref b1), .val (.int (x3 &&& (3 : Int32))), .val (.ref b4), .val (.ref b6), .val (.int (1 : Int32)), .val (.int (1 : Int32)), .val (.ref h6.size), .val (.ref b27)]) (S' := [.int (1 : Int32)]) rfl ?_
            refine b_goto C P29 (o := 4) (by decide +kernel) (pc' := 156) (by decide) ?_
            exact r_int C P29 (ty := .boolean) (by simp) rfl (by decide +kernel) (le_ _ _ rfl) (le_ _ _ rfl) ⟨_, rfl, rfl⟩
      · skip
        refine blk C P4 [.aconst_null] (by decide +kernel) (pc' := 58) (L' := [.val (.int x0), .val (.int x1), .val (.int x2), .val (.int x3), .val (.ref b1), .val (.int (x3 &&& (3 : Int32))), .val (.ref b4), .unset, .unset, .unset, .unset, .unset]) (S' := [.null]) rfl ?_
        refine b_goto C P4 (o := 7) (by decide +kernel) (pc' := 65) (by decide) ?_
        refine blk C P4 [.astore 7, .iload_n 3, .iconst 3, .iushr, .iconst 1, .iand] (by decide +kernel) (pc' := 72) (L' := [.val (.int x0), .val (.int x1), .val (.int x2), .val (.int x3), .val (.ref b1), .val (.int (x3 &&& (3 : Int32))), .val (.ref b4), .val (.null), .unset, .unset, .unset, .unset]) (S' := [.int ((XT.ushr x3 (3 : Int32)) &&& (1 : Int32))]) rfl ?_
        refine b_if C P4 (cd := .eq) (o := 7) (by decide +kernel) (pc' := 79) (by decide) (pn := 75) rfl (fun (q30 : ((XT.ushr x3 (3 : Int32)) &&& (1 : Int32)) = 0) => ?_) (fun (q30 : ¬ ((XT.ushr x3 (3 : Int32)) &&& (1 : Int32)) = 0) => ?_)
        · skip
          refine blk C P4 [.iconst 0, .istore 8, .iload_n 3, .iconst 4, .iushr, .iconst 1, .iand] (by decide +kernel) (pc' := 87) (L' := [.val (.int x0), .val (.int x1), .val (.int x2), .val (.int x3), .val (.ref b1), .val (.int (x3 &&& (3 : Int32))), .val (.ref b4), .val (.null), .val (.int (0 : Int32)), .unset, .unset, .unset]) (S' := [.int ((XT.ushr x3 (4 : Int32)) &&& (1 : Int32))]) rfl ?_
          refine b_if C P4 (cd := .eq) (o := 7) (by decide +kernel) (pc' := 94) (by decide) (pn := 90) rfl (fun (q31 : ((XT.ushr x3 (4 : Int32)) &&& (1 : Int32)) = 0) => ?_) (fun (q31 : ¬ ((XT.ushr x3 (4 : Int32)) &&& (1 : Int32)) = 0) => ?_)
          · skip
            refine blk C P4 [.iconst 0, .istore 9] (by decide +kernel) (pc' := 97) (L' := [.val (.int x0), .val (.int x1), .val (.int x2), .val (.int x3), .val (.ref b1), .val (.int (x3 &&& (3 : Int32))), .val (.ref b4), .val (.null), .val (.int (0 : Int32)), .val (.int (0 : Int32)), .unset, .unset]) (S' := []) rfl ?_
            refine s_new C P4 (idx := 22) (by decide +kernel) (hw _ (List.mem_of_getElem? (i := 26) rfl)) (hw _ (List.mem_of_getElem? (i := 27) rfl)) (hw _ (List.mem_of_getElem? (i := 28) rfl)) (le_ _ _ rfl) (le_ _ _ rfl) (pc' := 100) rfl (fun T32 h32 P32 E32 B32 => ?_)
            replace P32 := P32.more (k' := 9) (n' := 29) (le_ _ _ rfl) (le_ _ _ rfl)
            refine blk C P32 [.dup, .aload 4, .aload 6, .aload 7, .iload 8, .iload 9] (by decide +kernel) (pc' := 111) (L' := [.val (.int x0), .val (.int x1), .val (.int x2), .val (.int x3), .val (.ref b1), .val (.int (x3 &&& (3 : Int32))), .val (.ref b4), .val (.null), .val (.int (0 : Int32)), .val (.int (0 : Int32)), .unset, .unset]) (S' := [.int (0 : Int32), .int (0 : Int32), .null, .ref b4, .ref b1, .ref h4.size, .ref h4.size]) rfl ?_
            refine c_special C P32 (idx := 24) (y := (⟨"com/example/user_data_sweeper/userdatasweeper/Option", "<init>", "(Ljava/lang/String;Ljava/lang/String;Ljava/lang/String;ZZ)V"⟩ : MethodName)) (ybytes := prog_20_method_1_code) (ymax := 6) (yrm := ({ frames := 2, cells := 0, slots := 0, locals := 24 } : Room)) rfl (by decide +kernel) (hw _ (List.mem_of_getElem? (i := 29) rfl)) (hw _ (List.mem_of_getElem? (i := 30) rfl)) (hw _ (List.mem_of_getElem? (i := 28) rfl)) (hw _ (List.mem_of_getElem? (i := 31) rfl)) (by decide) [.ref b1, .ref b4, .null, .int (0 : Int32), .int (0 : Int32)] [.ref h4.size] (k_opt_rn l wd (h4.size) b1 b4 (0 : Int32) (0 : Int32) P32.old B32 ⟨rfl, rfl⟩ ⟨rfl, rfl⟩) (le_ _ _ rfl) (W := 1) (le_ _ _ rfl) (by decide +kernel : parseMethodDescriptor "(Ljava/lang/String;Ljava/lang/String;Ljava/lang/String;ZZ)V" = some ⟨[(.object "java/lang/String"), (.object "java/lang/String"), (.object "java/lang/String"), .boolean, .boolean], none⟩) rfl rfl rfl (le_ _ _ rfl) (le_ _ _ rfl) (le_ _ _ rfl) (pc' := 114) rfl (fun T33 h33 P33 Q33 => ?_)
            replace P33 := P33.more (k' := 9) (n' := 29) (le_ _ _ rfl) (le_ _ _ rfl)
            obtain ⟨K33, A33, F33_0⟩ := Q33
            refine blk C P33 [.astore 10, .aload 4, .aload 7] (by decide +kernel) (pc' := 120) (L' := [.val (.int x0), .val (.int x1), .val (.int x2), .val (.int x3), .val (.ref b1), .val (.int (x3 &&& (3 : Int32))), .val (.ref b4), .val (.null), .val (.int (0 : Int32)), .val (.int (0 : Int32)), .val (.ref h4.size), .unset]) (S' := [.null, .ref b1]) rfl ?_
            refine c_static C P33 (idx := 27) (y := (⟨"com/example/user_data_sweeper/userdatasweeper/Option", "flag", "(Ljava/lang/String;Ljava/lang/String;)Lcom/example/user_data_sweeper/userdatasweeper/Option;"⟩ : MethodName)) (ybytes := prog_20_method_5_code) (ymax := 2) (yret := (some (.object "com/example/user_data_sweeper/userdatasweeper/Option"))) (yrm := ({ frames := 3, cells := 1, slots := 5, locals := 42 } : Room)) (by decide +kernel) (hw _ (List.mem_of_getElem? (i := 48) rfl)) (hw _ (List.mem_of_getElem? (i := 49) rfl)) (hw _ (List.mem_of_getElem? (i := 28) rfl)) (hw _ (List.mem_of_getElem? (i := 50) rfl)) (by decide) [.ref b1, .null] [] (k_flag_n l wd b1 P33.old ) (le_ _ _ rfl) (W := 0) (le_ _ _ rfl) (by decide +kernel : parseMethodDescriptor "(Ljava/lang/String;Ljava/lang/String;)Lcom/example/user_data_sweeper/userdatasweeper/Option;" = some ⟨[(.object "java/lang/String"), (.object "java/lang/String")], some (.object "com/example/user_data_sweeper/userdatasweeper/Option")⟩) rfl rfl rfl (le_ _ _ rfl) (le_ _ _ rfl) (le_ _ _ rfl) (pc' := 123) rfl (fun T34 h34 v34 P34 Q34 => ?_)
            replace P34 := P34.more (k' := 10) (n' := 34) (le_ _ _ rfl) (le_ _ _ rfl)
            obtain ⟨b34, rfl, E34, A34, F34⟩ := Q34
            refine blk C P34 [.astore 11, .aload 10] (by decide +kernel) (pc' := 127) (L' := [.val (.int x0), .val (.int x1), .val (.int x2), .val (.int x3), .val (.ref b1), .val (.int (x3 &&& (3 : Int32))), .val (.ref b4), .val (.null), .val (.int (0 : Int32)), .val (.int (0 : Int32)), .val (.ref h4.size), .val (.ref b34)]) (S' := [.ref h4.size]) rfl ?_
            refine c_virtual C P34 (idx := 31) (y := (⟨"com/example/user_data_sweeper/userdatasweeper/Option", "isFlag", "()Z"⟩ : MethodName)) (K0 := "com/example/user_data_sweeper/userdatasweeper/Option") (ybytes := prog_20_method_6_code) (ymax := 1) (yret := (some .boolean)) (yrm := ({ frames := 0, cells := 0, slots := 0, locals := 0 } : Room)) (by decide +kernel) (hw _ (List.mem_of_getElem? (i := 53) rfl)) (hw _ (List.mem_of_getElem? (i := 54) rfl)) (hw _ (List.mem_of_getElem? (i := 56) rfl)) (hw _ (List.mem_of_getElem? (i := 55) rfl)) (hw _ (List.mem_of_getElem? (i := 28) rfl)) (hw _ (List.mem_of_getElem? (i := 57) rfl)) (by decide) (A33.ext E34) [] [] (k_isFlag_r l wd (h4.size) b4 P34.old (F33_0.ext E34)) (le_ _ _ rfl) (W := 0) (le_ _ _ rfl) (by decide +kernel : parseMethodDescriptor "()Z" = some ⟨[], some .boolean⟩) rfl rfl rfl (le_ _ _ rfl) (le_ _ _ rfl) (le_ _ _ rfl) (pc' := 130) rfl (fun T35 h35 v35 P35 Q35 => ?_)
            replace P35 := P35.more (k' := 10) (n' := 34) (le_ _ _ rfl) (le_ _ _ rfl)
            obtain ⟨rfl, rfl⟩ := Q35
            refine blk C P35 [.aload 6] (by decide +kernel) (pc' := 132) (L' := [.val (.int x0), .val (.int x1), .val (.int x2), .val (.int x3), .val (.ref b1), .val (.int (x3 &&& (3 : Int32))), .val (.ref b4), .val (.null), .val (.int (0 : Int32)), .val (.int (0 : Int32)), .val (.ref h4.size), .val (.ref b34)]) (S' := [.ref b4, .int (0 : Int32)]) rfl ?_
            refine b_nonnullY C P35 (o := 7) (by decide +kernel) (pc' := 139) (by decide) ?_
            refine blk C P35 [.iconst 0] (by decide +kernel) (pc' := 140) (L' := [.val (.int x0), .val (.int x1), .val (.int x2), .val (.int x3), .val (.ref b1), .val (.int (x3 &&& (3 : Int32))), .val (.ref b4), .val (.null), .val (.int (0 : Int32)), .val (.int (0 : Int32)), .val (.ref h4.size), .val (.ref b34)]) (S' := [.int (0 : Int32), .int (0 : Int32)]) rfl ?_
            refine b_cmN C P35 (cd := .ne) (o := 15) (by decide +kernel) (pc' := 143) rfl (by decide : (0 : Int32) = (0 : Int32)) ?_
            refine blk C P35 [.aload 11] (by decide +kernel) (pc' := 145) (L' := [.val (.int x0), .val (.int x1), .val (.int x2), .val (.int x3), .val (.ref b1), .val (.int (x3 &&& (3 : Int32))), .val (.ref b4), .val (.null), .val (.int (0 : Int32)), .val (.int (0 : Int32)), .val (.ref h4.size), .val (.ref b34)]) (S' := [.ref b34]) rfl ?_
            refine c_virtual C P35 (idx := 31) (y := (⟨"com/example/user_data_sweeper/userdatasweeper/Option", "isFlag", "()Z"⟩ : MethodName)) (K0 := "com/example/user_data_sweeper/userdatasweeper/Option") (ybytes := prog_20_method_6_code) (ymax := 1) (yret := (some .boolean)) (yrm := ({ frames := 0, cells := 0, slots := 0, locals := 0 } : Room)) (by decide +kernel) (hw _ (List.mem_of_getElem? (i := 53) rfl)) (hw _ (List.mem_of_getElem? (i := 54) rfl)) (hw _ (List.mem_of_getElem? (i := 56) rfl)) (hw _ (List.mem_of_getElem? (i := 55) rfl)) (hw _ (List.mem_of_getElem? (i := 28) rfl)) (hw _ (List.mem_of_getElem? (i := 57) rfl)) (by decide) A34 [] [] (k_isFlag_n l wd b34 P35.old F34) (le_ _ _ rfl) (W := 0) (le_ _ _ rfl) (by decide +kernel : parseMethodDescriptor "()Z" = some ⟨[], some .boolean⟩) rfl rfl rfl (le_ _ _ rfl) (le_ _ _ rfl) (le_ _ _ rfl) (pc' := 148) rfl (fun T36 h36 v36 P36 Q36 => ?_)
            replace P36 := P36.more (k' := 10) (n' := 34) (le_ _ _ rfl) (le_ _ _ rfl)
            obtain ⟨rfl, rfl⟩ := Q36
            refine b_ifN C P36 (cd := .eq) (o := 7) (by decide +kernel) (pc' := 151) rfl (by decide : ¬ (1 : Int32) = 0) ?_
            refine blk C P36 [.iconst 1] (by decide +kernel) (pc' := 152) (L' := [.val (.int x0), .val (.int x1), .val (.int x2), .val (.int x3), .val (.ref b1), .val (.int (x3 &&& (3 : Int32))), .val (.ref b4), .val (.null), .val (.int (0 : Int32)), .val (.int (0 : Int32)), .val (.ref h4.size), .val (.ref b34)]) (S' := [.int (1 : Int32)]) rfl ?_
            refine b_goto C P36 (o := 4) (by decide +kernel) (pc' := 156) (by decide) ?_
            exact r_int C P36 (ty := .boolean) (by simp) rfl (by decide +kernel) (le_ _ _ rfl) (le_ _ _ rfl) ⟨_, rfl, rfl⟩
          · skip
            refine blk C P4 [.iconst 1] (by decide +kernel) (pc' := 91) (L' := [.val (.int x0), .val (.int x1), .val (.int x2), .val (.int x3), .val (.ref b1), .val (.int (x3 &&& (3 : Int32))), .val (.ref b4), .val (.null), .val (.int (0 : Int32)), .unset, .unset, .unset]) (S' := [.int (1 : Int32)]) rfl ?_
            refine b_goto C P4 (o := 4) (by decide +kernel) (pc' := 95) (by decide) ?_
            refine blk C P4 [.istore 9] (by decide +kernel) (pc' := 97) (L' := [.val (.int x0), .val (.int x1), .val (.int x2), .val (.int x3), .val (.ref b1), .val (.int (x3 &&& (3 : Int32))), .val (.ref b4), .val (.null), .val (.int (0 : Int32)), .val (.int (1 : Int32)), .unset, .unset]) (S' := []) rfl ?_
            refine s_new C P4 (idx := 22) (by decide +kernel) (hw _ (List.mem_of_getElem? (i := 26) rfl)) (hw _ (List.mem_of_getElem? (i := 27) rfl)) (hw _ (List.mem_of_getElem? (i := 28) rfl)) (le_ _ _ rfl) (le_ _ _ rfl) (pc' := 100) rfl (fun T37 h37 P37 E37 B37 => ?_)
            replace P37 := P37.more (k' := 9) (n' := 29) (le_ _ _ rfl) (le_ _ _ rfl)
            refine blk C P37 [.dup, .aload 4, .aload 6, .aload 7, .iload 8, .iload 9] (by decide +kernel) (pc' := 111) (L' := [.val (.int x0), .val (.int x1), .val (.int x2), .val (.int x3), .val (.ref b1), .val (.int (x3 &&& (3 : Int32))), .val (.ref b4), .val (.null), .val (.int (0 : Int32)), .val (.int (1 : Int32)), .unset, .unset]) (S' := [.int (1 : Int32), .int (0 : Int32), .null, .ref b4, .ref b1, .ref h4.size, .ref h4.size]) rfl ?_
            refine c_special C P37 (idx := 24) (y := (⟨"com/example/user_data_sweeper/userdatasweeper/Option", "<init>", "(Ljava/lang/String;Ljava/lang/String;Ljava/lang/String;ZZ)V"⟩ : MethodName)) (ybytes := prog_20_method_1_code) (ymax := 6) (yrm := ({ frames := 2, cells := 0, slots := 0, locals := 24 } : Room)) rfl (by decide +kernel) (hw _ (List.mem_of_getElem? (i := 29) rfl)) (hw _ (List.mem_of_getElem? (i := 30) rfl)) (hw _ (List.mem_of_getElem? (i := 28) rfl)) (hw _ (List.mem_of_getElem? (i := 31) rfl)) (by decide) [.ref b1, .ref b4, .null, .int (0 : Int32), .int (1 : Int32)] [.ref h4.size] (k_opt_rn l wd (h4.size) b1 b4 (0 : Int32) (1 : Int32) P37.old B37 ⟨rfl, rfl⟩ ⟨rfl, rfl⟩) (le_ _ _ rfl) (W := 1) (le_ _ _ rfl) (by decide +kernel : parseMethodDescriptor "(Ljava/lang/String;Ljava/lang/String;Ljava/lang/String;ZZ)V" = some ⟨[(.object "java/lang/String"), (.object "java/lang/String"), (.object "java/lang/String"), .boolean, .boolean], none⟩) rfl rfl rfl (le_ _ _ rfl) (le_ _ _ rfl) (le_ _ _ rfl) (pc' := 114) rfl (fun T38 h38 P38 Q38 => ?_)
            replace P38 := P38.more (k' := 9) (n' := 29) (le_ _ _ rfl) (le_ _ _ rfl)
            obtain ⟨K38, A38, F38_0⟩ := Q38
            refine blk C P38 [.astore 10, .aload 4, .aload 7] (by decide +kernel) (pc' := 120) (L' := [.val (.int x0), .val (.int x1), .val (.int x2), .val (.int x3), .val (.ref b1), .val (.int (x3 &&& (3 : Int32))), .val (.ref b4), .val (.null), .val (.int (0 : Int32)), .val (.int (1 : Int32)), .val (.ref h4.size), .unset]) (S' := [.null, .ref b1]) rfl ?_
            refine c_static C P38 (idx := 27) (y := (⟨"com/example/user_data_sweeper/userdatasweeper/Option", "flag", "(Ljava/lang/String;Ljava/lang/String;)Lcom/example/user_data_sweeper/userdatasweeper/Option;"⟩ : MethodName)) (ybytes := prog_20_method_5_code) (ymax := 2) (yret := (some (.object "com/example/user_data_sweeper/userdatasweeper/Option"))) (yrm := ({ frames := 3, cells := 1, slots := 5, locals := 42 } : Room)) (by decide +kernel) (hw _ (List.mem_of_getElem? (i := 48) rfl)) (hw _ (List.mem_of_getElem? (i := 49) rfl)) (hw _ (List.mem_of_getElem? (i := 28) rfl)) (hw _ (List.mem_of_getElem? (i := 50) rfl)) (by decide) [.ref b1, .null] [] (k_flag_n l wd b1 P38.old ) (le_ _ _ rfl) (W := 0) (le_ _ _ rfl) (by decide +kernel : parseMethodDescriptor "(Ljava/lang/String;Ljava/lang/String;)Lcom/example/user_data_sweeper/userdatasweeper/Option;" = some ⟨[(.object "java/lang/String"), (.object "java/lang/String")], some (.object "com/example/user_data_sweeper/userdatasweeper/Option")⟩) rfl rfl rfl (le_ _ _ rfl) (le_ _ _ rfl) (le_ _ _ rfl) (pc' := 123) rfl (fun T39 h39 v39 P39 Q39 => ?_)
            replace P39 := P39.more (k' := 10) (n' := 34) (le_ _ _ rfl) (le_ _ _ rfl)
            obtain ⟨b39, rfl, E39, A39, F39⟩ := Q39
            refine blk C P39 [.astore 11, .aload 10] (by decide +kernel) (pc' := 127) (L' := [.val (.int x0), .val (.int x1), .val (.int x2), .val (.int x3), .val (.ref b1), .val (.int (x3 &&& (3 : Int32))), .val (.ref b4), .val (.null), .val (.int (0 : Int32)), .val (.int (1 : Int32)), .val (.ref h4.size), .val (.ref b39)]) (S' := [.ref h4.size]) rfl ?_
            refine c_virtual C P39 (idx := 31) (y := (⟨"com/example/user_data_sweeper/userdatasweeper/Option", "isFlag", "()Z"⟩ : MethodName)) (K0 := "com/example/user_data_sweeper/userdatasweeper/Option") (ybytes := prog_20_method_6_code) (ymax := 1) (yret := (some .boolean)) (yrm := ({ frames := 0, cells := 0, slots := 0, locals := 0 } : Room)) (by decide +kernel) (hw _ (List.mem_of_getElem? (i := 53) rfl)) (hw _ (List.mem_of_getElem? (i := 54) rfl)) (hw _ (List.mem_of_getElem? (i := 56) rfl)) (hw _ (List.mem_of_getElem? (i := 55) rfl)) (hw _ (List.mem_of_getElem? (i := 28) rfl)) (hw _ (List.mem_of_getElem? (i := 57) rfl)) (by decide) (A38.ext E39) [] [] (k_isFlag_r l wd (h4.size) b4 P39.old (F38_0.ext E39)) (le_ _ _ rfl) (W := 0) (le_ _ _ rfl) (by decide +kernel : parseMethodDescriptor "()Z" = some ⟨[], some .boolean⟩) rfl rfl rfl (le_ _ _ rfl) (le_ _ _ rfl) (le_ _ _ rfl) (pc' := 130) rfl (fun T40 h40 v40 P40 Q40 => ?_)
            replace P40 := P40.more (k' := 10) (n' := 34) (le_ _ _ rfl) (le_ _ _ rfl)
            obtain ⟨rfl, rfl⟩ := Q40
            refine blk C P40 [.aload 6] (by decide +kernel) (pc' := 132) (L' := [.val (.int x0), .val (.int x1), .val (.int x2), .val (.int x3), .val (.ref b1), .val (.int (x3 &&& (3 : Int32))), .val (.ref b4), .val (.null), .val (.int (0 : Int32)), .val (.int (1 : Int32)), .val (.ref h4.size), .val (.ref b39)]) (S' := [.ref b4, .int (0 : Int32)]) rfl ?_
            refine b_nonnullY C P40 (o := 7) (by decide +kernel) (pc' := 139) (by decide) ?_
            refine blk C P40 [.iconst 0] (by decide +kernel) (pc' := 140) (L' := [.val (.int x0), .val (.int x1), .val (.int x2), .val (.int x3), .val (.ref b1), .val (.int (x3 &&& (3 : Int32))), .val (.ref b4), .val (.null), .val (.int (0 : Int32)), .val (.int (1 : Int32)), .val (.ref h4.size), .val (.ref b39)]) (S' := [.int (0 : Int32), .int (0 : Int32)]) rfl ?_
            refine b_cmN C P40 (cd := .ne) (o := 15) (by decide +kernel) (pc' := 143) rfl (by decide : (0 : Int32) = (0 : Int32)) ?_
            refine blk C P40 [.aload 11] (by decide +kernel) (pc' := 145) (L' := [.val (.int x0), .val (.int x1), .val (.int x2), .val (.int x3), .val (.ref b1), .val (.int (x3 &&& (3 : Int32))), .val (.ref b4), .val (.null), .val (.int (0 : Int32)), .val (.int (1 : Int32)), .val (.ref h4.size), .val (.ref b39)]) (S' := [.ref b39]) rfl ?_
            refine c_virtual C P40 (idx := 31) (y := (⟨"com/example/user_data_sweeper/userdatasweeper/Option", "isFlag", "()Z"⟩ : MethodName)) (K0 := "com/example/user_data_sweeper/userdatasweeper/Option") (ybytes := prog_20_method_6_code) (ymax := 1) (yret := (some .boolean)) (yrm := ({ frames := 0, cells := 0, slots := 0, locals := 0 } : Room)) (by decide +kernel) (hw _ (List.mem_of_getElem? (i := 53) rfl)) (hw _ (List.mem_of_getElem? (i := 54) rfl)) (hw _ (List.mem_of_getElem? (i := 56) rfl)) (hw _ (List.mem_of_getElem? (i := 55) rfl)) (hw _ (List.mem_of_getElem? (i := 28) rfl)) (hw _ (List.mem_of_getElem? (i := 57) rfl)) (by decide) A39 [] [] (k_isFlag_n l wd b39 P40.old F39) (le_ _ _ rfl) (W := 0) (le_ _ _ rfl) (by decide +kernel : parseMethodDescriptor "()Z" = some ⟨[], some .boolean⟩) rfl rfl rfl (le_ _ _ rfl) (le_ _ _ rfl) (le_ _ _ rfl) (pc' := 148) rfl (fun T41 h41 v41 P41 Q41 => ?_)
            replace P41 := P41.more (k' := 10) (n' := 34) (le_ _ _ rfl) (le_ _ _ rfl)
            obtain ⟨rfl, rfl⟩ := Q41
            refine b_ifN C P41 (cd := .eq) (o := 7) (by decide +kernel) (pc' := 151) rfl (by decide : ¬ (1 : Int32) = 0) ?_
            refine blk C P41 [.iconst 1] (by decide +kernel) (pc' := 152) (L' := [.val (.int x0), .val (.int x1), .val (.int x2), .val (.int x3), .val (.ref b1), .val (.int (x3 &&& (3 : Int32))), .val (.ref b4), .val (.null), .val (.int (0 : Int32)), .val (.int (1 : Int32)), .val (.ref h4.size), .val (.ref b39)]) (S' := [.int (1 : Int32)]) rfl ?_
            refine b_goto C P41 (o := 4) (by decide +kernel) (pc' := 156) (by decide) ?_
            exact r_int C P41 (ty := .boolean) (by simp) rfl (by decide +kernel) (le_ _ _ rfl) (le_ _ _ rfl) ⟨_, rfl, rfl⟩
        · skip
          refine blk C P4 [.iconst 1] (by decide +kernel) (pc' := 76) (L' := [.val (.int x0), .val (.int x1), .val (.int x2), .val (.int x3), .val (.ref b1), .val (.int (x3 &&& (3 : Int32))), .val (.ref b4), .val (.null), .unset, .unset, .unset, .unset]) (S' := [.int (1 : Int32)]) rfl ?_
          refine b_goto C P4 (o := 4) (by decide +kernel) (pc' := 80) (by decide) ?_
          refine blk C P4 [.istore 8, .iload_n 3, .iconst 4, .iushr, .iconst 1, .iand] (by decide +kernel) (pc' := 87) (L' := [.val (.int x0), .val (.int x1), .val (.int x2), .val (.int x3), .val (.ref b1), .val (.int (x3 &&& (3 : Int32))), .val (.ref b4), .val (.null), .val (.int (1 : Int32)), .unset, .unset, .unset]) (S' := [.int ((XT.ushr x3 (4 : Int32)) &&& (1 : Int32))]) rfl ?_
          refine b_if C P4 (cd := .eq) (o := 7) (by decide +kernel) (pc' := 94) (by decide) (pn := 90) rfl (fun (q42 : ((XT.ushr x3 (4 : Int32)) &&& (1 : Int32)) = 0) => ?_) (fun (q42 : ¬ ((XT.ushr x3 (4 : Int32)) &&& (1 : Int32)) = 0) => ?_)
          · skip
            refine blk C P4 [.iconst 0, .istore 9] (by decide +kernel) (pc' := 97) (L' := [.val (.int x0), .val (.int x1), .val (.int x2), .val (.int x3), .val (.ref b1), .val (.int (x3 &&& (3 : Int32))), .val (.ref b4), .val (.null), .val (.int (1 : Int32)), .val (.int (0 : Int32)), .unset, .unset]) (S' := []) rfl ?_
            refine s_new C P4 (idx := 22) (by decide +kernel) (hw _ (List.mem_of_getElem? (i := 26) rfl)) (hw _ (List.mem_of_getElem? (i := 27) rfl)) (hw _ (List.mem_of_getElem? (i := 28) rfl)) (le_ _ _ rfl) (le_ _ _ rfl) (pc' := 100) rfl (fun T43 h43 P43 E43 B43 => ?_)
            replace P43 := P43.more (k' := 9) (n' := 29) (le_ _ _ rfl) (le_ _ _ rfl)
            refine blk C P43 [.dup, .aload 4, .aload 6, .aload 7, .iload 8, .iload 9] (by decide +kernel) (pc' := 111) (L' := [.val (.int x0), .val (.int x1), .val (.int x2), .val (.int x3), .val (.ref b1), .val (.int (x3 &&& (3 : Int32))), .val (.ref b4), .val (.null), .val (.int (1 : Int32)), .val (.int (0 : Int32)), .unset, .unset]) (S' := [.int (0 : Int32), .int (1 : Int32), .null, .ref b4, .ref b1, .ref h4.size, .ref h4.size]) rfl ?_
            refine c_special C P43 (idx := 24) (y := (⟨"com/example/user_data_sweeper/userdatasweeper/Option", "<init>", "(Ljava/lang/String;Ljava/lang/String;Ljava/lang/String;ZZ)V"⟩ : MethodName)) (ybytes := prog_20_method_1_code) (ymax := 6) (yrm := ({ frames := 2, cells := 0, slots := 0, locals := 24 } : Room)) rfl (by decide +kernel) (hw _ (List.mem_of_getElem? (i := 29) rfl)) (hw _ (List.mem_of_getElem? (i := 30) rfl)) (hw _ (List.mem_of_getElem? (i := 28) rfl)) (hw _ (List.mem_of_getElem? (i := 31) rfl)) (by decide) [.ref b1, .ref b4, .null, .int (1 : Int32), .int (0 : Int32)] [.ref h4.size] (k_opt_rn l wd (h4.size) b1 b4 (1 : Int32) (0 : Int32) P43.old B43 ⟨rfl, rfl⟩ ⟨rfl, rfl⟩) (le_ _ _ rfl) (W := 1) (le_ _ _ rfl) (by decide +kernel : parseMethodDescriptor "(Ljava/lang/String;Ljava/lang/String;Ljava/lang/String;ZZ)V" = some ⟨[(.object "java/lang/String"), (.object "java/lang/String"), (.object "java/lang/String"), .boolean, .boolean], none⟩) rfl rfl rfl (le_ _ _ rfl) (le_ _ _ rfl) (le_ _ _ rfl) (pc' := 114) rfl (fun T44 h44 P44 Q44 => ?_)
            replace P44 := P44.more (k' := 9) (n' := 29) (le_ _ _ rfl) (le_ _ _ rfl)
            obtain ⟨K44, A44, F44_0⟩ := Q44
            refine blk C P44 [.astore 10, .aload 4, .aload 7] (by decide +kernel) (pc' := 120) (L' := [.val (.int x0), .val (.int x1), .val (.int x2), .val (.int x3), .val (.ref b1), .val (.int (x3 &&& (3 : Int32))), .val (.ref b4), .val (.null), .val (.int (1 : Int32)), .val (.int (0 : Int32)), .val (.ref h4.size), .unset]) (S' := [.null, .ref b1]) rfl ?_
            refine c_static C P44 (idx := 27) (y := (⟨"com/example/user_data_sweeper/userdatasweeper/Option", "flag", "(Ljava/lang/String;Ljava/lang/String;)Lcom/example/user_data_sweeper/userdatasweeper/Option;"⟩ : MethodName)) (ybytes := prog_20_method_5_code) (ymax := 2) (yret := (some (.object "com/example/user_data_sweeper/userdatasweeper/Option"))) (yrm := ({ frames := 3, cells := 1, slots := 5, locals := 42 } : Room)) (by decide +kernel) (hw _ (List.mem_of_getElem? (i := 48) rfl)) (hw _ (List.mem_of_getElem? (i := 49) rfl)) (hw _ (List.mem_of_getElem? (i := 28) rfl)) (hw _ (List.mem_of_getElem? (i := 50) rfl)) (by decide) [.ref b1, .null] [] (k_flag_n l wd b1 P44.old ) (le_ _ _ rfl) (W := 0) (le_ _ _ rfl) (by decide +kernel : parseMethodDescriptor "(Ljava/lang/String;Ljava/lang/String;)Lcom/example/user_data_sweeper/userdatasweeper/Option;" = some ⟨[(.object "java/lang/String"), (.object "java/lang/String")], some (.object "com/example/user_data_sweeper/userdatasweeper/Option")⟩) rfl rfl rfl (le_ _ _ rfl) (le_ _ _ rfl) (le_ _ _ rfl) (pc' := 123) rfl (fun T45 h45 v45 P45 Q45 => ?_)
            replace P45 := P45.more (k' := 10) (n' := 34) (le_ _ _ rfl) (le_ _ _ rfl)
            obtain ⟨b45, rfl, E45, A45, F45⟩ := Q45
            refine blk C P45 [.astore 11, .aload 10] (by decide +kernel) (pc' := 127) (L' := [.val (.int x0), .val (.int x1), .val (.int x2), .val (.int x3), .val (.ref b1), .val (.int (x3 &&& (3 : Int32))), .val (.ref b4), .val (.null), .val (.int (1 : Int32)), .val (.int (0 : Int32)), .val (.ref h4.size), .val (.ref b45)]) (S' := [.ref h4.size]) rfl ?_
            refine c_virtual C P45 (idx := 31) (y := (⟨"com/example/user_data_sweeper/userdatasweeper/Option", "isFlag", "()Z"⟩ : MethodName)) (K0 := "com/example/user_data_sweeper/userdatasweeper/Option") (ybytes := prog_20_method_6_code) (ymax := 1) (yret := (some .boolean)) (yrm := ({ frames := 0, cells := 0, slots := 0, locals := 0 } : Room)) (by decide +kernel) (hw _ (List.mem_of_getElem? (i := 53) rfl)) (hw _ (List.mem_of_getElem? (i := 54) rfl)) (hw _ (List.mem_of_getElem? (i := 56) rfl)) (hw _ (List.mem_of_getElem? (i := 55) rfl)) (hw _ (List.mem_of_getElem? (i := 28) rfl)) (hw _ (List.mem_of_getElem? (i := 57) rfl)) (by decide) (A44.ext E45) [] [] (k_isFlag_r l wd (h4.size) b4 P45.old (F44_0.ext E45)) (le_ _ _ rfl) (W := 0) (le_ _ _ rfl) (by decide +kernel : parseMethodDescriptor "()Z" = some ⟨[], some .boolean⟩) rfl rfl rfl (le_ _ _ rfl) (le_ _ _ rfl) (le_ _ _ rfl) (pc' := 130) rfl (fun T46 h46 v46 P46 Q46 => ?_)
            replace P46 := P46.more (k' := 10) (n' := 34) (le_ _ _ rfl) (le_ _ _ rfl)
            obtain ⟨rfl, rfl⟩ := Q46
            refine blk C P46 [.aload 6] (by decide +kernel) (pc' := 132) (L' := [.val (.int x0), .val (.int x1), .val (.int x2), .val (.int x3), .val (.ref b1), .val (.int (x3 &&& (3 : Int32))), .val (.ref b4), .val (.null), .val (.int (1 : Int32)), .val (.int (0 : Int32)), .val (.ref h4.size), .val (.ref b45)]) (S' := [.ref b4, .int (0 : Int32)]) rfl ?_
            refine b_nonnullY C P46 (o := 7) (by decide +kernel) (pc' := 139) (by decide) ?_
            refine blk C P46 [.iconst 0] (by decide +kernel) (pc' := 140) (L' := [.val (.int x0), .val (.int x1), .val (.int x2), .val (.int x3), .val (.ref b1), .val (.int (x3 &&& (3 : Int32))), .val (.ref b4), .val (.null), .val (.int (1 : Int32)), .val (.int (0 : Int32)), .val (.ref h4.size), .val (.ref b45)]) (S' := [.int (0 : Int32), .int (0 : Int32)]) rfl ?_
            refine b_cmN C P46 (cd := .ne) (o := 15) (by decide +kernel) (pc' := 143) rfl (by decide : (0 : Int32) = (0 : Int32)) ?_
            refine blk C P46 [.aload 11] (by decide +kernel) (pc' := 145) (L' := [.val (.int x0), .val (.int x1), .val (.int x2), .val (.int x3), .val (.ref b1), .val (.int (x3 &&& (3 : Int32))), .val (.ref b4), .val (.null), .val (.int (1 : Int32)), .val (.int (0 : Int32)), .val (.ref h4.size), .val (.ref b45)]) (S' := [.ref b45]) rfl ?_
            refine c_virtual C P46 (idx := 31) (y := (⟨"com/example/user_data_sweeper/userdatasweeper/Option", "isFlag", "()Z"⟩ : MethodName)) (K0 := "com/example/user_data_sweeper/userdatasweeper/Option") (ybytes := prog_20_method_6_code) (ymax := 1) (yret := (some .boolean)) (yrm := ({ frames := 0, cells := 0, slots := 0, locals := 0 } : Room)) (by decide +kernel) (hw _ (List.mem_of_getElem? (i := 53) rfl)) (hw _ (List.mem_of_getElem? (i := 54) rfl)) (hw _ (List.mem_of_getElem? (i := 56) rfl)) (hw _ (List.mem_of_getElem? (i := 55) rfl)) (hw _ (List.mem_of_getElem? (i := 28) rfl)) (hw _ (List.mem_of_getElem? (i := 57) rfl)) (by decide) A45 [] [] (k_isFlag_n l wd b45 P46.old F45) (le_ _ _ rfl) (W := 0) (le_ _ _ rfl) (by decide +kernel : parseMethodDescriptor "()Z" = some ⟨[], some .boolean⟩) rfl rfl rfl (le_ _ _ rfl) (le_ _ _ rfl) (le_ _ _ rfl) (pc' := 148) rfl (fun T47 h47 v47 P47 Q47 => ?_)
            replace P47 := P47.more (k' := 10) (n' := 34) (le_ _ _ rfl) (le_ _ _ rfl)
            obtain ⟨rfl, rfl⟩ := Q47
            refine b_ifN C P47 (cd := .eq) (o := 7) (by decide +kernel) (pc' := 151) rfl (by decide : ¬ (1 : Int32) = 0) ?_
            refine blk C P47 [.iconst 1] (by decide +kernel) (pc' := 152) (L' := [.val (.int x0), .val (.int x1), .val (.int x2), .val (.int x3), .val (.ref b1), .val (.int (x3 &&& (3 : Int32))), .val (.ref b4), .val (.null), .val (.int (1 : Int32)), .val (.int (0 : Int32)), .val (.ref h4.size), .val (.ref b45)]) (S' := [.int (1 : Int32)]) rfl ?_
            refine b_goto C P47 (o := 4) (by decide +kernel) (pc' := 156) (by decide) ?_
            exact r_int C P47 (ty := .boolean) (by simp) rfl (by decide +kernel) (le_ _ _ rfl) (le_ _ _ rfl) ⟨_, rfl, rfl⟩
          · skip
            refine blk C P4 [.iconst 1] (by decide +kernel) (pc' := 91) (L' := [.val (.int x0), .val (.int x1), .val (.int x2), .val (.int x3), .val (.ref b1), .val (.int (x3 &&& (3 : Int32))), .val (.ref b4), .val (.null), .val (.int (1 : Int32)), .unset, .unset, .unset]) (S' := [.int (1 : Int32)]) rfl ?_
            refine b_goto C P4 (o := 4) (by decide +kernel) (pc' := 95) (by decide) ?_
            refine blk C P4 [.istore 9] (by decide +kernel) (pc' := 97) (L' := [.val (.int x0), .val (.int x1), .val (.int x2), .val (.int x3), .val (.ref b1), .val (.int (x3 &&& (3 : Int32))), .val (.ref b4), .val (.null), .val (.int (1 : Int32)), .val (.int (1 : Int32)), .unset, .unset]) (S' := []) rfl ?_
            refine s_new C P4 (idx := 22) (by decide +kernel) (hw _ (List.mem_of_getElem? (i := 26) rfl)) (hw _ (List.mem_of_getElem? (i := 27) rfl)) (hw _ (List.mem_of_getElem? (i := 28) rfl)) (le_ _ _ rfl) (le_ _ _ rfl) (pc' := 100) rfl (fun T48 h48 P48 E48 B48 => ?_)
            replace P48 := P48.more (k' := 9) (n' := 29) (le_ _ _ rfl) (le_ _ _ rfl)
            refine blk C P48 [.dup, .aload 4, .aload 6, .aload 7, .iload 8, .iload 9] (by decide +kernel) (pc' := 111) (L' := [.val (.int x0), .val (.int x1), .val (.int x2), .val (.int x3), .val (.ref b1), .val (.int (x3 &&& (3 : Int32))), .val (.ref b4), .val (.null), .val (.int (1 : Int32)), .val (.int (1 : Int32)), .unset, .unset]) (S' := [.int (1 : Int32), .int (1 : Int32), .null, .ref b4, .ref b1, .ref h4.size, .ref h4.size]) rfl ?_
            refine c_special C P48 (idx := 24) (y := (⟨"com/example/user_data_sweeper/userdatasweeper/Option", "<init>", "(Ljava/lang/String;Ljava/lang/String;Ljava/lang/String;ZZ)V"⟩ : MethodName)) (ybytes := prog_20_method_1_code) (ymax := 6) (yrm := ({ frames := 2, cells := 0, slots := 0, locals := 24 } : Room)) rfl (by decide +kernel) (hw _ (List.mem_of_getElem? (i := 29) rfl)) (hw _ (List.mem_of_getElem? (i := 30) rfl)) (hw _ (List.mem_of_getElem? (i := 28) rfl)) (hw _ (List.mem_of_getElem? (i := 31) rfl)) (by decide) [.ref b1, .ref b4, .null, .int (1 : Int32), .int (1 : Int32)] [.ref h4.size] (k_opt_rn l wd (h4.size) b1 b4 (1 : Int32) (1 : Int32) P48.old B48 ⟨rfl, rfl⟩ ⟨rfl, rfl⟩) (le_ _ _ rfl) (W := 1) (le_ _ _ rfl) (by decide +kernel : parseMethodDescriptor "(Ljava/lang/String;Ljava/lang/String;Ljava/lang/String;ZZ)V" = some ⟨[(.object "java/lang/String"), (.object "java/lang/String"), (.object "java/lang/String"), .boolean, .boolean], none⟩) rfl rfl rfl (le_ _ _ rfl) (le_ _ _ rfl) (le_ _ _ rfl) (pc' := 114) rfl (fun T49 h49 P49 Q49 => ?_)
            replace P49 := P49.more (k' := 9) (n' := 29) (le_ _ _ rfl) (le_ _ _ rfl)
            obtain ⟨K49, A49, F49_0⟩ := Q49
            refine blk C P49 [.astore 10, .aload 4, .aload 7] (by decide +kernel) (pc' := 120) (L' := [.val (.int x0), .val (.int x1), .val (.int x2), .val (.int x3), .val (.ref b1), .val (.int (x3 &&& (3 : Int32))), .val (.ref b4), .val (.null), .val (.int (1 : Int32)), .val (.int (1 : Int32)), .val (.ref h4.size), .unset]) (S' := [.null, .ref b1]) rfl ?_
            refine c_static C P49 (idx := 27) (y := (⟨"com/example/user_data_sweeper/userdatasweeper/Option", "flag", "(Ljava/lang/String;Ljava/lang/String;)Lcom/example/user_data_sweeper/userdatasweeper/Option;"⟩ : MethodName)) (ybytes := prog_20_method_5_code) (ymax := 2) (yret := (some (.object "com/example/user_data_sweeper/userdatasweeper/Option"))) (yrm := ({ frames := 3, cells := 1, slots := 5, locals := 42 } : Room)) (by decide +kernel) (hw _ (List.mem_of_getElem? (i := 48) rfl)) (hw _ (List.mem_of_getElem? (i := 49) rfl)) (hw _ (List.mem_of_getElem? (i := 28) rfl)) (hw _ (List.mem_of_getElem? (i := 50) rfl)) (by decide) [.ref b1, .null] [] (k_flag_n l wd b1 P49.old ) (le_ _ _ rfl) (W := 0) (le_ _ _ rfl) (by decide +kernel : parseMethodDescriptor "(Ljava/lang/String;Ljava/lang/String;)Lcom/example/user_data_sweeper/userdatasweeper/Option;" = some ⟨[(.object "java/lang/String"), (.object "java/lang/String")], some (.object "com/example/user_data_sweeper/userdatasweeper/Option")⟩) rfl rfl rfl (le_ _ _ rfl) (le_ _ _ rfl) (le_ _ _ rfl) (pc' := 123) rfl (fun T50 h50 v50 P50 Q50 => ?_)
            replace P50 := P50.more (k' := 10) (n' := 34) (le_ _ _ rfl) (le_ _ _ rfl)
            obtain ⟨b50, rfl, E50, A50, F50⟩ := Q50
            refine blk C P50 [.astore 11, .aload 10] (by decide +kernel) (pc' := 127) (L' := [.val (.int x0), .val (.int x1), .val (.int x2), .val (.int x3), .val (.ref b1), .val (.int (x3 &&& (3 : Int32))), .val (.ref b4), .val (.null), .val (.int (1 : Int32)), .val (.int (1 : Int32)), .val (.ref h4.size), .val (.ref b50)]) (S' := [.ref h4.size]) rfl ?_
            refine c_virtual C P50 (idx := 31) (y := (⟨"com/example/user_data_sweeper/userdatasweeper/Option", "isFlag", "()Z"⟩ : MethodName)) (K0 := "com/example/user_data_sweeper/userdatasweeper/Option") (ybytes := prog_20_method_6_code) (ymax := 1) (yret := (some .boolean)) (yrm := ({ frames := 0, cells := 0, slots := 0, locals := 0 } : Room)) (by decide +kernel) (hw _ (List.mem_of_getElem? (i := 53) rfl)) (hw _ (List.mem_of_getElem? (i := 54) rfl)) (hw _ (List.mem_of_getElem? (i := 56) rfl)) (hw _ (List.mem_of_getElem? (i := 55) rfl)) (hw _ (List.mem_of_getElem? (i := 28) rfl)) (hw _ (List.mem_of_getElem? (i := 57) rfl)) (by decide) (A49.ext E50) [] [] (k_isFlag_r l wd (h4.size) b4 P50.old (F49_0.ext E50)) (le_ _ _ rfl) (W := 0) (le_ _ _ rfl) (by decide +kernel : parseMethodDescriptor "()Z" = some ⟨[], some .boolean⟩) rfl rfl rfl (le_ _ _ rfl) (le_ _ _ rfl) (le_ _ _ rfl) (pc' := 130) rfl (fun T51 h51 v51 P51 Q51 => ?_)
            replace P51 := P51.more (k' := 10) (n' := 34) (le_ _ _ rfl) (le_ _ _ rfl)
            obtain ⟨rfl, rfl⟩ := Q51
            refine blk C P51 [.aload 6] (by decide +kernel) (pc' := 132) (L' := [.val (.int x0), .val (.int x1), .val (.int x2), .val (.int x3), .val (.ref b1), .val (.int (x3 &&& (3 : Int32))), .val (.ref b4), .val (.null), .val (.int (1 : Int32)), .val (.int (1 : Int32)), .val (.ref h4.size), .val (.ref b50)]) (S' := [.ref b4, .int (0 : Int32)]) rfl ?_
            refine b_nonnullY C P51 (o := 7) (by decide +kernel) (pc' := 139) (by decide) ?_
            refine blk C P51 [.iconst 0] (by decide +kernel) (pc' := 140) (L' := [.val (.int x0), .val (.int x1), .val (.int x2), .val (.int x3), .val (.ref b1), .val (.int (x3 &&& (3 : Int32))), .val (.ref b4), .val (.null), .val (.int (1 : Int32)), .val (.int (1 : Int32)), .val (.ref h4.size), .val (.ref b50)]) (S' := [.int (0 : Int32), .int (0 : Int32)]) rfl ?_
            refine b_cmN C P51 (cd := .ne) (o := 15) (by decide +kernel) (pc' := 143) rfl (by decide : (0 : Int32) = (0 : Int32)) ?_
            refine blk C P51 [.aload 11] (by decide +kernel) (pc' := 145) (L' := [.val (.int x0), .val (.int x1), .val (.int x2), .val (.int x3), .val (.ref b1), .val (.int (x3 &&& (3 : Int32))), .val (.ref b4), .val (.null), .val (.int (1 : Int32)), .val (.int (1 : Int32)), .val (.ref h4.size), .val (.ref b50)]) (S' := [.ref b50]) rfl ?_
            refine c_virtual C P51 (idx := 31) (y := (⟨"com/example/user_data_sweeper/userdatasweeper/Option", "isFlag", "()Z"⟩ : MethodName)) (K0 := "com/example/user_data_sweeper/userdatasweeper/Option") (ybytes := prog_20_method_6_code) (ymax := 1) (yret := (some .boolean)) (yrm := ({ frames := 0, cells := 0, slots := 0, locals := 0 } : Room)) (by decide +kernel) (hw _ (List.mem_of_getElem? (i := 53) rfl)) (hw _ (List.mem_of_getElem? (i := 54) rfl)) (hw _ (List.mem_of_getElem? (i := 56) rfl)) (hw _ (List.mem_of_getElem? (i := 55) rfl)) (hw _ (List.mem_of_getElem? (i := 28) rfl)) (hw _ (List.mem_of_getElem? (i := 57) rfl)) (by decide) A50 [] [] (k_isFlag_n l wd b50 P51.old F50) (le_ _ _ rfl) (W := 0) (le_ _ _ rfl) (by decide +kernel : parseMethodDescriptor "()Z" = some ⟨[], some .boolean⟩) rfl rfl rfl (le_ _ _ rfl) (le_ _ _ rfl) (le_ _ _ rfl) (pc' := 148) rfl (fun T52 h52 v52 P52 Q52 => ?_)
            replace P52 := P52.more (k' := 10) (n' := 34) (le_ _ _ rfl) (le_ _ _ rfl)
            obtain ⟨rfl, rfl⟩ := Q52
            refine b_ifN C P52 (cd := .eq) (o := 7) (by decide +kernel) (pc' := 151) rfl (by decide : ¬ (1 : Int32) = 0) ?_
            refine blk C P52 [.iconst 1] (by decide +kernel) (pc' := 152) (L' := [.val (.int x0), .val (.int x1), .val (.int x2), .val (.int x3), .val (.ref b1), .val (.int (x3 &&& (3 : Int32))), .val (.ref b4), .val (.null), .val (.int (1 : Int32)), .val (.int (1 : Int32)), .val (.ref h4.size), .val (.ref b50)]) (S' := [.int (1 : Int32)]) rfl ?_
            refine b_goto C P52 (o := 4) (by decide +kernel) (pc' := 156) (by decide) ?_
            exact r_int C P52 (ty := .boolean) (by simp) rfl (by decide +kernel) (le_ _ _ rfl) (le_ _ _ rfl) ⟨_, rfl, rfl⟩
    · skip
      refine s_new C P1 (idx := 7) (by decide +kernel) (hw _ (List.mem_of_getElem? (i := 4) rfl)) (hw _ (List.mem_of_getElem? (i := 5) rfl)) (hw _ (List.mem_of_getElem? (i := 6) rfl)) (le_ _ _ rfl) (le_ _ _ rfl) (pc' := 31) rfl (fun T53 h53 P53 E53 B53 => ?_)
      replace P53 := P53.more (k' := 5) (n' := 16) (le_ _ _ rfl) (le_ _ _ rfl)
      refine blk C P53 [.dup, .iconst 0] (by decide +kernel) (pc' := 33) (L' := [.val (.int x0), .val (.int x1), .val (.int x2), .val (.int x3), .val (.ref b1), .val (.int (x3 &&& (3 : Int32))), .unset, .unset, .unset, .unset, .unset, .unset]) (S' := [.int (0 : Int32), .ref h1.size, .ref h1.size]) rfl ?_
      refine s_newC C P53 0 (by decide +kernel) (hw _ (List.mem_of_getElem? (i := 7) rfl)) rfl (by decide) (le_ _ _ rfl) (le_ _ _ rfl) (pc' := 35) rfl (fun T54 h54 P54 E54 V54 => ?_)
      replace P54 := P54.more (k' := 6) (n' := 16) (le_ _ _ rfl) (le_ _ _ rfl)
      have B56 := (B53.ext E54)
      refine c_newStr C P54 hw Sz hz (idx := 9) (cs := []) (rest := [.ref h1.size]) (W := 1) (by decide +kernel) (hw _ (List.mem_of_getElem? (i := 8) rfl)) (hw _ (List.mem_of_getElem? (i := 9) rfl)) B56 V54 lat0 rfl (le_ _ _ rfl) (le_ _ _ rfl) (le_ _ _ rfl) (le_ _ _ rfl) (le_ _ _ rfl) (pc' := 38) rfl (fun T55 h55 P55 K55 S55 => ?_)
      replace P55 := P55.more (k' := 8) (n' := 20) (le_ _ _ rfl) (le_ _ _ rfl)
      refine blk C P55 [.astore 6] (by decide +kernel) (pc' := 40) (L' := [.val (.int x0), .val (.int x1), .val (.int x2), .val (.int x3), .val (.ref b1), .val (.int (x3 &&& (3 : Int32))), .val (.ref h1.size), .unset, .unset, .unset, .unset, .unset]) (S' := []) rfl ?_
      refine b_goto C P55 (o := 9) (by decide +kernel) (pc' := 49) (by decide) ?_
      refine blk C P55 [.iload_n 3, .iconst 2, .iushr, .iconst 1, .iand] (by decide +kernel) (pc' := 54) (L' := [.val (.int x0), .val (.int x1), .val (.int x2), .val (.int x3), .val (.ref b1), .val (.int (x3 &&& (3 : Int32))), .val (.ref h1.size), .unset, .unset, .unset, .unset, .unset]) (S' := [.int ((XT.ushr x3 (2 : Int32)) &&& (1 : Int32))]) rfl ?_
      refine b_if C P55 (cd := .eq) (o := 7) (by decide +kernel) (pc' := 61) (by decide) (pn := 57) rfl (fun (q57 : ((XT.ushr x3 (2 : Int32)) &&& (1 : Int32)) = 0) => ?_) (fun (q57 : ¬ ((XT.ushr x3 (2 : Int32)) &&& (1 : Int32)) = 0) => ?_)
      · skip
        refine blk C P55 [.iload_n 2] (by decide +kernel) (pc' := 62) (L' := [.val (.int x0), .val (.int x1), .val (.int x2), .val (.int x3), .val (.ref b1), .val (.int (x3 &&& (3 : Int32))), .val (.ref h1.size), .unset, .unset, .unset, .unset, .unset]) (S' := [.int x2]) rfl ?_
        refine c_static C P55 (idx := 16) (y := (⟨"com/example/user_data_sweeper/userdatasweeper/OptionIsFlagPinLaw", "draw", "(I)Ljava/lang/String;"⟩ : MethodName)) (ybytes := method_2_code) (ymax := 4) (yret := (some (.object "java/lang/String"))) (yrm := ({ frames := 4, cells := 4, slots := 12, locals := 66 } : Room)) (by decide +kernel) (hw _ (List.mem_of_getElem? (i := 0) rfl)) (hw _ (List.mem_of_getElem? (i := 1) rfl)) (hw _ (List.mem_of_getElem? (i := 2) rfl)) (hw _ (List.mem_of_getElem? (i := 3) rfl)) (by decide) [.int x2] [] (k_draw l wd x2 P55.old ) (le_ _ _ rfl) (W := 0) (le_ _ _ rfl) (by decide +kernel : parseMethodDescriptor "(I)Ljava/lang/String;" = some ⟨[.int], some (.object "java/lang/String")⟩) rfl rfl rfl (le_ _ _ rfl) (le_ _ _ rfl) (le_ _ _ rfl) (pc' := 65) rfl (fun T58 h58 v58 P58 Q58 => ?_)
        replace P58 := P58.more (k' := 12) (n' := 32) (le_ _ _ rfl) (le_ _ _ rfl)
        obtain ⟨b58, rfl, E58, S58⟩ := Q58
        refine blk C P58 [.astore 7, .iload_n 3, .iconst 3, .iushr, .iconst 1, .iand] (by decide +kernel) (pc' := 72) (L' := [.val (.int x0), .val (.int x1), .val (.int x2), .val (.int x3), .val (.ref b1), .val (.int (x3 &&& (3 : Int32))), .val (.ref h1.size), .val (.ref b58), .unset, .unset, .unset, .unset]) (S' := [.int ((XT.ushr x3 (3 : Int32)) &&& (1 : Int32))]) rfl ?_
        refine b_if C P58 (cd := .eq) (o := 7) (by decide +kernel) (pc' := 79) (by decide) (pn := 75) rfl (fun (q59 : ((XT.ushr x3 (3 : Int32)) &&& (1 : Int32)) = 0) => ?_) (fun (q59 : ¬ ((XT.ushr x3 (3 : Int32)) &&& (1 : Int32)) = 0) => ?_)
        · skip
          refine blk C P58 [.iconst 0, .istore 8, .iload_n 3, .iconst 4, .iushr, .iconst 1, .iand] (by decide +kernel) (pc' := 87) (L' := [.val (.int x0), .val (.int x1), .val (.int x2), .val (.int x3), .val (.ref b1), .val (.int (x3 &&& (3 : Int32))), .val (.ref h1.size), .val (.ref b58), .val (.int (0 : Int32)), .unset, .unset, .unset]) (S' := [.int ((XT.ushr x3 (4 : Int32)) &&& (1 : Int32))]) rfl ?_
          refine b_if C P58 (cd := .eq) (o := 7) (by decide +kernel) (pc' := 94) (by decide) (pn := 90) rfl (fun (q60 : ((XT.ushr x3 (4 : Int32)) &&& (1 : Int32)) = 0) => ?_) (fun (q60 : ¬ ((XT.ushr x3 (4 : Int32)) &&& (1 : Int32)) = 0) => ?_)
          · skip
            refine blk C P58 [.iconst 0, .istore 9] (by decide +kernel) (pc' := 97) (L' := [.val (.int x0), .val (.int x1), .val (.int x2), .val (.int x3), .val (.ref b1), .val (.int (x3 &&& (3 : Int32))), .val (.ref h1.size), .val (.ref b58), .val (.int (0 : Int32)), .val (.int (0 : Int32)), .unset, .unset]) (S' := []) rfl ?_
            refine s_new C P58 (idx := 22) (by decide +kernel) (hw _ (List.mem_of_getElem? (i := 26) rfl)) (hw _ (List.mem_of_getElem? (i := 27) rfl)) (hw _ (List.mem_of_getElem? (i := 28) rfl)) (le_ _ _ rfl) (le_ _ _ rfl) (pc' := 100) rfl (fun T61 h61 P61 E61 B61 => ?_)
            replace P61 := P61.more (k' := 13) (n' := 37) (le_ _ _ rfl) (le_ _ _ rfl)
            refine blk C P61 [.dup, .aload 4, .aload 6, .aload 7, .iload 8, .iload 9] (by decide +kernel) (pc' := 111) (L' := [.val (.int x0), .val (.int x1), .val (.int x2), .val (.int x3), .val (.ref b1), .val (.int (x3 &&& (3 : Int32))), .val (.ref h1.size), .val (.ref b58), .val (.int (0 : Int32)), .val (.int (0 : Int32)), .unset, .unset]) (S' := [.int (0 : Int32), .int (0 : Int32), .ref b58, .ref h1.size, .ref b1, .ref h58.size, .ref h58.size]) rfl ?_
            refine c_special C P61 (idx := 24) (y := (⟨"com/example/user_data_sweeper/userdatasweeper/Option", "<init>", "(Ljava/lang/String;Ljava/lang/String;Ljava/lang/String;ZZ)V"⟩ : MethodName)) (ybytes := prog_20_method_1_code) (ymax := 6) (yrm := ({ frames := 2, cells := 0, slots := 0, locals := 24 } : Room)) rfl (by decide +kernel) (hw _ (List.mem_of_getElem? (i := 29) rfl)) (hw _ (List.mem_of_getElem? (i := 30) rfl)) (hw _ (List.mem_of_getElem? (i := 28) rfl)) (hw _ (List.mem_of_getElem? (i := 31) rfl)) (by decide) [.ref b1, .ref h1.size, .ref b58, .int (0 : Int32), .int (0 : Int32)] [.ref h58.size] (k_opt_rr l wd (h58.size) b1 (h1.size) b58 (0 : Int32) (0 : Int32) P61.old B61 ⟨rfl, rfl⟩ ⟨rfl, rfl⟩) (le_ _ _ rfl) (W := 1) (le_ _ _ rfl) (by decide +kernel : parseMethodDescriptor "(Ljava/lang/String;Ljava/lang/String;Ljava/lang/String;ZZ)V" = some ⟨[(.object "java/lang/String"), (.object "java/lang/String"), (.object "java/lang/String"), .boolean, .boolean], none⟩) rfl rfl rfl (le_ _ _ rfl) (le_ _ _ rfl) (le_ _ _ rfl) (pc' := 114) rfl (fun T62 h62 P62 Q62 => ?_)
            replace P62 := P62.more (k' := 13) (n' := 37) (le_ _ _ rfl) (le_ _ _ rfl)
            obtain ⟨K62, A62, F62_0⟩ := Q62
            refine blk C P62 [.astore 10, .aload 4, .aload 7] (by decide +kernel) (pc' := 120) (L' := [.val (.int x0), .val (.int x1), .val (.int x2), .val (.int x3), .val (.ref b1), .val (.int (x3 &&& (3 : Int32))), .val (.ref h1.size), .val (.ref b58), .val (.int (0 : Int32)), .val (.int (0 : Int32)), .val (.ref h58.size), .unset]) (S' := [.ref b58, .ref b1]) rfl ?_
            refine c_static C P62 (idx := 27) (y := (⟨"com/example/user_data_sweeper/userdatasweeper/Option", "flag", "(Ljava/lang/String;Ljava/lang/String;)Lcom/example/user_data_sweeper/userdatasweeper/Option;"⟩ : MethodName)) (ybytes := prog_20_method_5_code) (ymax := 2) (yret := (some (.object "com/example/user_data_sweeper/userdatasweeper/Option"))) (yrm := ({ frames := 3, cells := 1, slots := 5, locals := 42 } : Room)) (by decide +kernel) (hw _ (List.mem_of_getElem? (i := 48) rfl)) (hw _ (List.mem_of_getElem? (i := 49) rfl)) (hw _ (List.mem_of_getElem? (i := 28) rfl)) (hw _ (List.mem_of_getElem? (i := 50) rfl)) (by decide) [.ref b1, .ref b58] [] (k_flag_r l wd b1 b58 P62.old ) (le_ _ _ rfl) (W := 0) (le_ _ _ rfl) (by decide +kernel : parseMethodDescriptor "(Ljava/lang/String;Ljava/lang/String;)Lcom/example/user_data_sweeper/userdatasweeper/Option;" = some ⟨[(.object "java/lang/String"), (.object "java/lang/String")], some (.object "com/example/user_data_sweeper/userdatasweeper/Option")⟩) rfl rfl rfl (le_ _ _ rfl) (le_ _ _ rfl) (le_ _ _ rfl) (pc' := 123) rfl (fun T63 h63 v63 P63 Q63 => ?_)
            replace P63 := P63.more (k' := 14) (n' := 42) (le_ _ _ rfl) (le_ _ _ rfl)
            obtain ⟨b63, rfl, E63, A63, F63⟩ := Q63
            refine blk C P63 [.astore 11, .aload 10] (by decide +kernel) (pc' := 127) (L' := [.val (.int x0), .val (.int x1), .val (.int x2), .val (.int x3), .val (.ref b1), .val (.int (x3 &&& (3 : Int32))), .val (.ref h1.size), .val (.ref b58), .val (.int (0 : Int32)), .val (.int (0 : Int32)), .val (.ref h58.size), .val (.ref b63)]) (S' := [.ref h58.size]) rfl ?_
            refine c_virtual C P63 (idx := 31) (y := (⟨"com/example/user_data_sweeper/userdatasweeper/Option", "isFlag", "()Z"⟩ : MethodName)) (K0 := "com/example/user_data_sweeper/userdatasweeper/Option") (ybytes := prog_20_method_6_code) (ymax := 1) (yret := (some .boolean)) (yrm := ({ frames := 0, cells := 0, slots := 0, locals := 0 } : Room)) (by decide +kernel) (hw _ (List.mem_of_getElem? (i := 53) rfl)) (hw _ (List.mem_of_getElem? (i := 54) rfl)) (hw _ (List.mem_of_getElem? (i := 56) rfl)) (hw _ (List.mem_of_getElem? (i := 55) rfl)) (hw _ (List.mem_of_getElem? (i := 28) rfl)) (hw _ (List.mem_of_getElem? (i := 57) rfl)) (by decide) (A62.ext E63) [] [] (k_isFlag_r l wd (h58.size) (h1.size) P63.old (F62_0.ext E63)) (le_ _ _ rfl) (W := 0) (le_ _ _ rfl) (by decide +kernel : parseMethodDescriptor "()Z" = some ⟨[], some .boolean⟩) rfl rfl rfl (le_ _ _ rfl) (le_ _ _ rfl) (le_ _ _ rfl) (pc' := 130) rfl (fun T64 h64 v64 P64 Q64 => ?_)
            replace P64 := P64.more (k' := 14) (n' := 42) (le_ _ _ rfl) (le_ _ _ rfl)
            obtain ⟨rfl, rfl⟩ := Q64
            refine blk C P64 [.aload 6] (by decide +kernel) (pc' := 132) (L' := [.val (.int x0), .val (.int x1), .val (.int x2), .val (.int x3), .val (.ref b1), .val (.int (x3 &&& (3 : Int32))), .val (.ref h1.size), .val (.ref b58), .val (.int (0 : Int32)), .val (.int (0 : Int32)), .val (.ref h58.size), .val (.ref b63)]) (S' := [.ref h1.size, .int (0 : Int32)]) rfl ?_
            refine b_nonnullY C P64 (o := 7) (by decide +kernel) (pc' := 139) (by decide) ?_
            refine blk C P64 [.iconst 0] (by decide +kernel) (pc' := 140) (L' := [.val (.int x0), .val (.int x1), .val (.int x2), .val (.int x3), .val (.ref b1), .val (.int (x3 &&& (3 : Int32))), .val (.ref h1.size), .val (.ref b58), .val (.int (0 : Int32)), .val (.int (0 : Int32)), .val (.ref h58.size), .val (.ref b63)]) (S' := [.int (0 : Int32), .int (0 : Int32)]) rfl ?_
            refine b_cmN C P64 (cd := .ne) (o := 15) (by decide +kernel) (pc' := 143) rfl (by decide : (0 : Int32) = (0 : Int32)) ?_
            refine blk C P64 [.aload 11] (by decide +kernel) (pc' := 145) (L' := [.val (.int x0), .val (.int x1), .val (.int x2), .val (.int x3), .val (.ref b1), .val (.int (x3 &&& (3 : Int32))), .val (.ref h1.size), .val (.ref b58), .val (.int (0 : Int32)), .val (.int (0 : Int32)), .val (.ref h58.size), .val (.ref b63)]) (S' := [.ref b63]) rfl ?_
            refine c_virtual C P64 (idx := 31) (y := (⟨"com/example/user_data_sweeper/userdatasweeper/Option", "isFlag", "()Z"⟩ : MethodName)) (K0 := "com/example/user_data_sweeper/userdatasweeper/Option") (ybytes := prog_20_method_6_code) (ymax := 1) (yret := (some .boolean)) (yrm := ({ frames := 0, cells := 0, slots := 0, locals := 0 } : Room)) (by decide +kernel) (hw _ (List.mem_of_getElem? (i := 53) rfl)) (hw _ (List.mem_of_getElem? (i := 54) rfl)) (hw _ (List.mem_of_getElem? (i := 56) rfl)) (hw _ (List.mem_of_getElem? (i := 55) rfl)) (hw _ (List.mem_of_getElem? (i := 28) rfl)) (hw _ (List.mem_of_getElem? (i := 57) rfl)) (by decide) A63 [] [] (k_isFlag_n l wd b63 P64.old F63) (le_ _ _ rfl) (W := 0) (le_ _ _ rfl) (by decide +kernel : parseMethodDescriptor "()Z" = some ⟨[], some .boolean⟩) rfl rfl rfl (le_ _ _ rfl) (le_ _ _ rfl) (le_ _ _ rfl) (pc' := 148) rfl (fun T65 h65 v65 P65 Q65 => ?_)
            replace P65 := P65.more (k' := 14) (n' := 42) (le_ _ _ rfl) (le_ _ _ rfl)
            obtain ⟨rfl, rfl⟩ := Q65
            refine b_ifN C P65 (cd := .eq) (o := 7) (by decide +kernel) (pc' := 151) rfl (by decide : ¬ (1 : Int32) = 0) ?_
            refine blk C P65 [.iconst 1] (by decide +kernel) (pc' := 152) (L' := [.val (.int x0), .val (.int x1), .val (.int x2), .val (.int x3), .val (.ref b1), .val (.int (x3 &&& (3 : Int32))), .val (.ref h1.size), .val (.ref b58), .val (.int (0 : Int32)), .val (.int (0 : Int32)), .val (.ref h58.size), .val (.ref b63)]) (S' := [.int (1 : Int32)]) rfl ?_
            refine b_goto C P65 (o := 4) (by decide +kernel) (pc' := 156) (by decide) ?_
            exact r_int C P65 (ty := .boolean) (by simp) rfl (by decide +kernel) (le_ _ _ rfl) (le_ _ _ rfl) ⟨_, rfl, rfl⟩
          · skip
            refine blk C P58 [.iconst 1] (by decide +kernel) (pc' := 91) (L' := [.val (.int x0), .val (.int x1), .val (.int x2), .val (.int x3), .val (.ref b1), .val (.int (x3 &&& (3 : Int32))), .val (.ref h1.size), .val (.ref b58), .val (.int (0 : Int32)), .unset, .unset, .unset]) (S' := [.int (1 : Int32)]) rfl ?_
            refine b_goto C P58 (o := 4) (by decide +kernel) (pc' := 95) (by decide) ?_
            refine blk C P58 [.istore 9] (by decide +kernel) (pc' := 97) (L' := [.val (.int x0), .val (.int x1), .val (.int x2), .val (.int x3), .val (.ref b1), .val (.int (x3 &&& (3 : Int32))), .val (.ref h1.size), .val (.ref b58), .val (.int (0 : Int32)), .val (.int (1 : Int32)), .unset, .unset]) (S' := []) rfl ?_
            refine s_new C P58 (idx := 22) (by decide +kernel) (hw _ (List.mem_of_getElem? (i := 26) rfl)) (hw _ (List.mem_of_getElem? (i := 27) rfl)) (hw _ (List.mem_of_getElem? (i := 28) rfl)) (le_ _ _ rfl) (le_ _ _ rfl) (pc' := 100) rfl (fun T66 h66 P66 E66 B66 => ?_)
            replace P66 := P66.more (k' := 13) (n' := 37) (le_ _ _ rfl) (le_ _ _ rfl)
            refine blk C P66 [.dup, .aload 4, .aload 6, .aload 7, .iload 8, .iload 9] (by decide +kernel) (pc' := 111) (L' := [.val (.int x0), .val (.int x1), .val (.int x2), .val (.int x3), .val (.ref b1), .val (.int (x3 &&& (3 : Int32))), .val (.ref h1.size), .val (.ref b58), .val (.int (0 : Int32)), .val (.int (1 : Int32)), .unset, .unset]) (S' := [.int (1 : Int32), .int (0 : Int32), .ref b58, .ref h1.size, .ref b1, .ref h58.size, .ref h58.size]) rfl ?_
            refine c_special C P66 (idx := 24) (y := (⟨"com/example/user_data_sweeper/userdatasweeper/Option", "<init>", "(Ljava/lang/String;Ljava/lang/String;Ljava/lang/String;ZZ)V"⟩ : MethodName)) (ybytes := prog_20_method_1_code) (ymax := 6) (yrm := ({ frames := 2, cells := 0, slots := 0, locals := 24 } : Room)) rfl (by decide +kernel) (hw _ (List.mem_of_getElem? (i := 29) rfl)) (hw _ (List.mem_of_getElem? (i := 30) rfl)) (hw _ (List.mem_of_getElem? (i := 28) rfl)) (hw _ (List.mem_of_getElem? (i := 31) rfl)) (by decide) [.ref b1, .ref h1.size, .ref b58, .int (0 : Int32), .int (1 : Int32)] [.ref h58.size] (k_opt_rr l wd (h58.size) b1 (h1.size) b58 (0 : Int32) (1 : Int32) P66.old B66 ⟨rfl, rfl⟩ ⟨rfl, rfl⟩) (le_ _ _ rfl) (W := 1) (le_ _ _ rfl) (by decide +kernel : parseMethodDescriptor "(Ljava/lang/String;Ljava/lang/String;Ljava/lang/String;ZZ)V" = some ⟨[(.object "java/lang/String"), (.object "java/lang/String"), (.object "java/lang/String"), .boolean, .boolean], none⟩) rfl rfl rfl (le_ _ _ rfl) (le_ _ _ rfl) (le_ _ _ rfl) (pc' := 114) rfl (fun T67 h67 P67 Q67 => ?_)
            replace P67 := P67.more (k' := 13) (n' := 37) (le_ _ _ rfl) (le_ _ _ rfl)
            obtain ⟨K67, A67, F67_0⟩ := Q67
            refine blk C P67 [.astore 10, .aload 4, .aload 7] (by decide +kernel) (pc' := 120) (L' := [.val (.int x0), .val (.int x1), .val (.int x2), .val (.int x3), .val (.ref b1), .val (.int (x3 &&& (3 : Int32))), .val (.ref h1.size), .val (.ref b58), .val (.int (0 : Int32)), .val (.int (1 : Int32)), .val (.ref h58.size), .unset]) (S' := [.ref b58, .ref b1]) rfl ?_
            refine c_static C P67 (idx := 27) (y := (⟨"com/example/user_data_sweeper/userdatasweeper/Option", "flag", "(Ljava/lang/String;Ljava/lang/String;)Lcom/example/user_data_sweeper/userdatasweeper/Option;"⟩ : MethodName)) (ybytes := prog_20_method_5_code) (ymax := 2) (yret := (some (.object "com/example/user_data_sweeper/userdatasweeper/Option"))) (yrm := ({ frames := 3, cells := 1, slots := 5, locals := 42 } : Room)) (by decide +kernel) (hw _ (List.mem_of_getElem? (i := 48) rfl)) (hw _ (List.mem_of_getElem? (i := 49) rfl)) (hw _ (List.mem_of_getElem? (i := 28) rfl)) (hw _ (List.mem_of_getElem? (i := 50) rfl)) (by decide) [.ref b1, .ref b58] [] (k_flag_r l wd b1 b58 P67.old ) (le_ _ _ rfl) (W := 0) (le_ _ _ rfl) (by decide +kernel : parseMethodDescriptor "(Ljava/lang/String;Ljava/lang/String;)Lcom/example/user_data_sweeper/userdatasweeper/Option;" = some ⟨[(.object "java/lang/String"), (.object "java/lang/String")], some (.object "com/example/user_data_sweeper/userdatasweeper/Option")⟩) rfl rfl rfl (le_ _ _ rfl) (le_ _ _ rfl) (le_ _ _ rfl) (pc' := 123) rfl (fun T68 h68 v68 P68 Q68 => ?_)
            replace P68 := P68.more (k' := 14) (n' := 42) (le_ _ _ rfl) (le_ _ _ rfl)
            obtain ⟨b68, rfl, E68, A68, F68⟩ := Q68
            refine blk C P68 [.astore 11, .aload 10] (by decide +kernel) (pc' := 127) (L' := [.val (.int x0), .val (.int x1), .val (.int x2), .val (.int x3), .val (.ref b1), .val (.int (x3 &&& (3 : Int32))), .val (.ref h1.size), .val (.ref b58), .val (.int (0 : Int32)), .val (.int (1 : Int32)), .val (.ref h58.size), .val (.ref b68)]) (S' := [.ref h58.size]) rfl ?_
            refine c_virtual C P68 (idx := 31) (y := (⟨"com/example/user_data_sweeper/userdatasweeper/Option", "isFlag", "()Z"⟩ : MethodName)) (K0 := "com/example/user_data_sweeper/userdatasweeper/Option") (ybytes := prog_20_method_6_code) (ymax := 1) (yret := (some .boolean)) (yrm := ({ frames := 0, cells := 0, slots := 0, locals := 0 } : Room)) (by decide +kernel) (hw _ (List.mem_of_getElem? (i := 53) rfl)) (hw _ (List.mem_of_getElem? (i := 54) rfl)) (hw _ (List.mem_of_getElem? (i := 56) rfl)) (hw _ (List.mem_of_getElem? (i := 55) rfl)) (hw _ (List.mem_of_getElem? (i := 28) rfl)) (hw _ (List.mem_of_getElem? (i := 57) rfl)) (by decide) (A67.ext E68) [] [] (k_isFlag_r l wd (h58.size) (h1.size) P68.old (F67_0.ext E68)) (le_ _ _ rfl) (W := 0) (le_ _ _ rfl) (by decide +kernel : parseMethodDescriptor "()Z" = some ⟨[], some .boolean⟩) rfl rfl rfl (le_ _ _ rfl) (le_ _ _ rfl) (le_ _ _ rfl) (pc' := 130) rfl (fun T69 h69 v69 P69 Q69 => ?_)
            replace P69 := P69.more (k' := 14) (n' := 42) (le_ _ _ rfl) (le_ _ _ rfl)
            obtain ⟨rfl, rfl⟩ := Q69
            refine blk C P69 [.aload 6] (by decide +kernel) (pc' := 132) (L' := [.val (.int x0), .val (.int x1), .val (.int x2), .val (.int x3), .val (.ref b1), .val (.int (x3 &&& (3 : Int32))), .val (.ref h1.size), .val (.ref b58), .val (.int (0 : Int32)), .val (.int (1 : Int32)), .val (.ref h58.size), .val (.ref b68)]) (S' := [.ref h1.size, .int (0 : Int32)]) rfl ?_
            refine b_nonnullY C P69 (o := 7) (by decide +kernel) (pc' := 139) (by decide) ?_
            refine blk C P69 [.iconst 0] (by decide +kernel) (pc' := 140) (L' := [.val (.int x0), .val (.int x1), .val (.int x2), .val (.int x3), .val (.ref b1), .val (.int (x3 &&& (3 : Int32))), .val (.ref h1.size), .val (.ref b58), .val (.int (0 : Int32)), .val (.int (1 : Int32)), .val (.ref h58.size), .val (.ref b68)]) (S' := [.int (0 : Int32), .int (0 : Int32)]) rfl ?_
            refine b_cmN C P69 (cd := .ne) (o := 15) (by decide +kernel) (pc' := 143) rfl (by decide : (0 : Int32) = (0 : Int32)) ?_
            refine blk C P69 [.aload 11] (by decide +kernel) (pc' := 145) (L' := [.val (.int x0), .val (.int x1), .val (.int x2), .val (.int x3), .val (.ref b1), .val (.int (x3 &&& (3 : Int32))), .val (.ref h1.size), .val (.ref b58), .val (.int (0 : Int32)), .val (.int (1 : Int32)), .val (.ref h58.size), .val (.ref b68)]) (S' := [.ref b68]) rfl ?_
            refine c_virtual C P69 (idx := 31) (y := (⟨"com/example/user_data_sweeper/userdatasweeper/Option", "isFlag", "()Z"⟩ : MethodName)) (K0 := "com/example/user_data_sweeper/userdatasweeper/Option") (ybytes := prog_20_method_6_code) (ymax := 1) (yret := (some .boolean)) (yrm := ({ frames := 0, cells := 0, slots := 0, locals := 0 } : Room)) (by decide +kernel) (hw _ (List.mem_of_getElem? (i := 53) rfl)) (hw _ (List.mem_of_getElem? (i := 54) rfl)) (hw _ (List.mem_of_getElem? (i := 56) rfl)) (hw _ (List.mem_of_getElem? (i := 55) rfl)) (hw _ (List.mem_of_getElem? (i := 28) rfl)) (hw _ (List.mem_of_getElem? (i := 57) rfl)) (by decide) A68 [] [] (k_isFlag_n l wd b68 P69.old F68) (le_ _ _ rfl) (W := 0) (le_ _ _ rfl) (by decide +kernel : parseMethodDescriptor "()Z" = some ⟨[], some .boolean⟩) rfl rfl rfl (le_ _ _ rfl) (le_ _ _ rfl) (le_ _ _ rfl) (pc' := 148) rfl (fun T70 h70 v70 P70 Q70 => ?_)
            replace P70 := P70.more (k' := 14) (n' := 42) (le_ _ _ rfl) (le_ _ _ rfl)
            obtain ⟨rfl, rfl⟩ := Q70
            refine b_ifN C P70 (cd := .eq) (o := 7) (by decide +kernel) (pc' := 151) rfl (by decide : ¬ (1 : Int32) = 0) ?_
            refine blk C P70 [.iconst 1] (by decide +kernel) (pc' := 152) (L' := [.val (.int x0), .val (.int x1), .val (.int x2), .val (.int x3), .val (.ref b1), .val (.int (x3 &&& (3 : Int32))), .val (.ref h1.size), .val (.ref b58), .val (.int (0 : Int32)), .val (.int (1 : Int32)), .val (.ref h58.size), .val (.ref b68)]) (S' := [.int (1 : Int32)]) rfl ?_
            refine b_goto C P70 (o := 4) (by decide +kernel) (pc' := 156) (by decide) ?_
            exact r_int C P70 (ty := .boolean) (by simp) rfl (by decide +kernel) (le_ _ _ rfl) (le_ _ _ rfl) ⟨_, rfl, rfl⟩
        · skip
          refine blk C P58 [.iconst 1] (by decide +kernel) (pc' := 76) (L' := [.val (.int x0), .val (.int x1), .val (.int x2), .val (.int x3), .val (.ref b1), .val (.int (x3 &&& (3 : Int32))), .val (.ref h1.size), .val (.ref b58), .unset, .unset, .unset, .unset]) (S' := [.int (1 : Int32)]) rfl ?_
          refine b_goto C P58 (o := 4) (by decide +kernel) (pc' := 80) (by decide) ?_
          refine blk C P58 [.istore 8, .iload_n 3, .iconst 4, .iushr, .iconst 1, .iand] (by decide +kernel) (pc' := 87) (L' := [.val (.int x0), .val (.int x1), .val (.int x2), .val (.int x3), .val (.ref b1), .val (.int (x3 &&& (3 : Int32))), .val (.ref h1.size), .val (.ref b58), .val (.int (1 : Int32)), .unset, .unset, .unset]) (S' := [.int ((XT.ushr x3 (4 : Int32)) &&& (1 : Int32))]) rfl ?_
          refine b_if C P58 (cd := .eq) (o := 7) (by decide +kernel) (pc' := 94) (by decide) (pn := 90) rfl (fun (q71 : ((XT.ushr x3 (4 : Int32)) &&& (1 : Int32)) = 0) => ?_) (fun (q71 : ¬ ((XT.ushr x3 (4 : Int32)) &&& (1 : Int32)) = 0) => ?_)
          · skip
            refine blk C P58 [.iconst 0, .istore 9] (by decide +kernel) (pc' := 97) (L' := [.val (.int x0), .val (.int x1), .val (.int x2), .val (.int x3), .val (.ref b1), .val (.int (x3 &&& (3 : Int32))), .val (.ref h1.size), .val (.ref b58), .val (.int (1 : Int32)), .val (.int (0 : Int32)), .unset, .unset]) (S' := []) rfl ?_
            refine s_new C P58 (idx := 22) (by decide +kernel) (hw _ (List.mem_of_getElem? (i := 26) rfl)) (hw _ (List.mem_of_getElem? (i := 27) rfl)) (hw _ (List.mem_of_getElem? (i := 28) rfl)) (le_ _ _ rfl) (le_ _ _ rfl) (pc' := 100) rfl (fun T72 h72 P72 E72 B72 => ?_)
            replace P72 := P72.more (k' := 13) (n' := 37) (le_ _ _ rfl) (le_ _ _ rfl)
            refine blk C P72 [.dup, .aload 4, .aload 6, .aload 7, .iload 8, .iload 9] (by decide +kernel) (pc' := 111) (L' := [.val (.int x0), .val (.int x1), .val (.int x2), .val (.int x3), .val (.ref b1), .val (.int (x3 &&& (3 : Int32))), .val (.ref h1.size), .val (.ref b58), .val (.int (1 : Int32)), .val (.int (0 : Int32)), .unset, .unset]) (S' := [.int (0 : Int32), .int (1 : Int32), .ref b58, .ref h1.size, .ref b1, .ref h58.size, .ref h58.size]) rfl ?_
            refine c_special C P72 (idx := 24) (y := (⟨"com/example/user_data_sweeper/userdatasweeper/Option", "<init>", "(Ljava/lang/String;Ljava/lang/String;Ljava/lang/String;ZZ)V"⟩ : MethodName)) (ybytes := prog_20_method_1_code) (ymax := 6) (yrm := ({ frames := 2, cells := 0, slots := 0, locals := 24 } : Room)) rfl (by decide +kernel) (hw _ (List.mem_of_getElem? (i := 29) rfl)) (hw _ (List.mem_of_getElem? (i := 30) rfl)) (hw _ (List.mem_of_getElem? (i := 28) rfl)) (hw _ (List.mem_of_getElem? (i := 31) rfl)) (by decide) [.ref b1, .ref h1.size, .ref b58, .int (1 : Int32), .int (0 : Int32)] [.ref h58.size] (k_opt_rr l wd (h58.size) b1 (h1.size) b58 (1 : Int32) (0 : Int32) P72.old B72 ⟨rfl, rfl⟩ ⟨rfl, rfl⟩) (le_ _ _ rfl) (W := 1) (le_ _ _ rfl) (by decide +kernel : parseMethodDescriptor "(Ljava/lang/String;Ljava/lang/String;Ljava/lang/String;ZZ)V" = some ⟨[(.object "java/lang/String"), (.object "java/lang/String"), (.object "java/lang/String"), .boolean, .boolean], none⟩) rfl rfl rfl (le_ _ _ rfl) (le_ _ _ rfl) (le_ _ _ rfl) (pc' := 114) rfl (fun T73 h73 P73 Q73 => ?_)
            replace P73 := P73.more (k' := 13) (n' := 37) (le_ _ _ rfl) (le_ _ _ rfl)
            obtain ⟨K73, A73, F73_0⟩ := Q73
            refine blk C P73 [.astore 10, .aload 4, .aload 7] (by decide +kernel) (pc' := 120) (L' := [.val (.int x0), .val (.int x1), .val (.int x2), .val (.int x3), .val (.ref b1), .val (.int (x3 &&& (3 : Int32))), .val (.ref h1.size), .val (.ref b58), .val (.int (1 : Int32)), .val (.int (0 : Int32)), .val (.ref h58.size), .unset]) (S' := [.ref b58, .ref b1]) rfl ?_
            refine c_static C P73 (idx := 27) (y := (⟨"com/example/user_data_sweeper/userdatasweeper/Option", "flag", "(Ljava/lang/String;Ljava/lang/String;)Lcom/example/user_data_sweeper/userdatasweeper/Option;"⟩ : MethodName)) (ybytes := prog_20_method_5_code) (ymax := 2) (yret := (some (.object "com/example/user_data_sweeper/userdatasweeper/Option"))) (yrm := ({ frames := 3, cells := 1, slots := 5, locals := 42 } : Room)) (by decide +kernel) (hw _ (List.mem_of_getElem? (i := 48) rfl)) (hw _ (List.mem_of_getElem? (i := 49) rfl)) (hw _ (List.mem_of_getElem? (i := 28) rfl)) (hw _ (List.mem_of_getElem? (i := 50) rfl)) (by decide) [.ref b1, .ref b58] [] (k_flag_r l wd b1 b58 P73.old ) (le_ _ _ rfl) (W := 0) (le_ _ _ rfl) (by decide +kernel : parseMethodDescriptor "(Ljava/lang/String;Ljava/lang/String;)Lcom/example/user_data_sweeper/userdatasweeper/Option;" = some ⟨[(.object "java/lang/String"), (.object "java/lang/String")], some (.object "com/example/user_data_sweeper/userdatasweeper/Option")⟩) rfl rfl rfl (le_ _ _ rfl) (le_ _ _ rfl) (le_ _ _ rfl) (pc' := 123) rfl (fun T74 h74 v74 P74 Q74 => ?_)
            replace P74 := P74.more (k' := 14) (n' := 42) (le_ _ _ rfl) (le_ _ _ rfl)
            obtain ⟨b74, rfl, E74, A74, F74⟩ := Q74
            refine blk C P74 [.astore 11, .aload 10] (by decide +kernel) (pc' := 127) (L' := [.val (.int x0), .val (.int x1), .val (.int x2), .val (.int x3), .val (.ref b1), .val (.int (x3 &&& (3 : Int32))), .val (.ref h1.size), .val (.ref b58), .val (.int (1 : Int32)), .val (.int (0 : Int32)), .val (.ref h58.size), .val (.ref b74)]) (S' := [.ref h58.size]) rfl ?_
            refine c_virtual C P74 (idx := 31) (y := (⟨"com/example/user_data_sweeper/userdatasweeper/Option", "isFlag", "()Z"⟩ : MethodName)) (K0 := "com/example/user_data_sweeper/userdatasweeper/Option") (ybytes := prog_20_method_6_code) (ymax := 1) (yret := (some .boolean)) (yrm := ({ frames := 0, cells := 0, slots := 0, locals := 0 } : Room)) (by decide +kernel) (hw _ (List.mem_of_getElem? (i := 53) rfl)) (hw _ (List.mem_of_getElem? (i := 54) rfl)) (hw _ (List.mem_of_getElem? (i := 56) rfl)) (hw _ (List.mem_of_getElem? (i := 55) rfl)) (hw _ (List.mem_of_getElem? (i := 28) rfl)) (hw _ (List.mem_of_getElem? (i := 57) rfl)) (by decide) (A73.ext E74) [] [] (k_isFlag_r l wd (h58.size) (h1.size) P74.old (F73_0.ext E74)) (le_ _ _ rfl) (W := 0) (le_ _ _ rfl) (by decide +kernel : parseMethodDescriptor "()Z" = some ⟨[], some .boolean⟩) rfl rfl rfl (le_ _ _ rfl) (le_ _ _ rfl) (le_ _ _ rfl) (pc' := 130) rfl (fun T75 h75 v75 P75 Q75 => ?_)
            replace P75 := P75.more (k' := 14) (n' := 42) (le_ _ _ rfl) (le_ _ _ rfl)
            obtain ⟨rfl, rfl⟩ := Q75
            refine blk C P75 [.aload 6] (by decide +kernel) (pc' := 132) (L' := [.val (.int x0), .val (.int x1), .val (.int x2), .val (.int x3), .val (.ref b1), .val (.int (x3 &&& (3 : Int32))), .val (.ref h1.size), .val (.ref b58), .val (.int (1 : Int32)), .val (.int (0 : Int32)), .val (.ref h58.size), .val (.ref b74)]) (S' := [.ref h1.size, .int (0 : Int32)]) rfl ?_
            refine b_nonnullY C P75 (o := 7) (by decide +kernel) (pc' := 139) (by decide) ?_
            refine blk C P75 [.iconst 0] (by decide +kernel) (pc' := 140) (L' := [.val (.int x0), .val (.int x1), .val (.int x2), .val (.int x3), .val (.ref b1), .val (.int (x3 &&& (3 : Int32))), .val (.ref h1.size), .val (.ref b58), .val (.int (1 : Int32)), .val (.int (0 : Int32)), .val (.ref h58.size), .val (.ref b74)]) (S' := [.int (0 : Int32), .int (0 : Int32)]) rfl ?_
            refine b_cmN C P75 (cd := .ne) (o := 15) (by decide +kernel) (pc' := 143) rfl (by decide : (0 : Int32) = (0 : Int32)) ?_
            refine blk C P75 [.aload 11] (by decide +kernel) (pc' := 145) (L' := [.val (.int x0), .val (.int x1), .val (.int x2), .val (.int x3), .val (.ref b1), .val (.int (x3 &&& (3 : Int32))), .val (.ref h1.size), .val (.ref b58), .val (.int (1 : Int32)), .val (.int (0 : Int32)), .val (.ref h58.size), .val (.ref b74)]) (S' := [.ref b74]) rfl ?_
            refine c_virtual C P75 (idx := 31) (y := (⟨"com/example/user_data_sweeper/userdatasweeper/Option", "isFlag", "()Z"⟩ : MethodName)) (K0 := "com/example/user_data_sweeper/userdatasweeper/Option") (ybytes := prog_20_method_6_code) (ymax := 1) (yret := (some .boolean)) (yrm := ({ frames := 0, cells := 0, slots := 0, locals := 0 } : Room)) (by decide +kernel) (hw _ (List.mem_of_getElem? (i := 53) rfl)) (hw _ (List.mem_of_getElem? (i := 54) rfl)) (hw _ (List.mem_of_getElem? (i := 56) rfl)) (hw _ (List.mem_of_getElem? (i := 55) rfl)) (hw _ (List.mem_of_getElem? (i := 28) rfl)) (hw _ (List.mem_of_getElem? (i := 57) rfl)) (by decide) A74 [] [] (k_isFlag_n l wd b74 P75.old F74) (le_ _ _ rfl) (W := 0) (le_ _ _ rfl) (by decide +kernel : parseMethodDescriptor "()Z" = some ⟨[], some .boolean⟩) rfl rfl rfl (le_ _ _ rfl) (le_ _ _ rfl) (le_ _ _ rfl) (pc' := 148) rfl (fun T76 h76 v76 P76 Q76 => ?_)
            replace P76 := P76.more (k' := 14) (n' := 42) (le_ _ _ rfl) (le_ _ _ rfl)
            obtain ⟨rfl, rfl⟩ := Q76
            refine b_ifN C P76 (cd := .eq) (o := 7) (by decide +kernel) (pc' := 151) rfl (by decide : ¬ (1 : Int32) = 0) ?_
            refine blk C P76 [.iconst 1] (by decide +kernel) (pc' := 152) (L' := [.val (.int x0), .val (.int x1), .val (.int x2), .val (.int x3), .val (.ref b1), .val (.int (x3 &&& (3 : Int32))), .val (.ref h1.size), .val (.ref b58), .val (.int (1 : Int32)), .val (.int (0 : Int32)), .val (.ref h58.size), .val (.ref b74)]) (S' := [.int (1 : Int32)]) rfl ?_
            refine b_goto C P76 (o := 4) (by decide +kernel) (pc' := 156) (by decide) ?_
            exact r_int C P76 (ty := .boolean) (by simp) rfl (by decide +kernel) (le_ _ _ rfl) (le_ _ _ rfl) ⟨_, rfl, rfl⟩
          · skip
            refine blk C P58 [.iconst 1] (by decide +kernel) (pc' := 91) (L' := [.val (.int x0), .val (.int x1), .val (.int x2), .val (.int x3), .val (.ref b1), .val (.int (x3 &&& (3 : Int32))), .val (.ref h1.size), .val (.ref b58), .val (.int (1 : Int32)), .unset, .unset, .unset]) (S' := [.int (1 : Int32)]) rfl ?_
            refine b_goto C P58 (o := 4) (by decide +kernel) (pc' := 95) (by decide) ?_
            refine blk C P58 [.istore 9] (by decide +kernel) (pc' := 97) (L' := [.val (.int x0), .val (.int x1), .val (.int x2), .val (.int x3), .val (.ref b1), .val (.int (x3 &&& (3 : Int32))), .val (.ref h1.size), .val (.ref b58), .val (.int (1 : Int32)), .val (.int (1 : Int32)), .unset, .unset]) (S' := []) rfl ?_
            refine s_new C P58 (idx := 22) (by decide +kernel) (hw _ (List.mem_of_getElem? (i := 26) rfl)) (hw _ (List.mem_of_getElem? (i := 27) rfl)) (hw _ (List.mem_of_getElem? (i := 28) rfl)) (le_ _ _ rfl) (le_ _ _ rfl) (pc' := 100) rfl (fun T77 h77 P77 E77 B77 => ?_)
            replace P77 := P77.more (k' := 13) (n' := 37) (le_ _ _ rfl) (le_ _ _ rfl)
            refine blk C P77 [.dup, .aload 4, .aload 6, .aload 7, .iload 8, .iload 9] (by decide +kernel) (pc' := 111) (L' := [.val (.int x0), .val (.int x1), .val (.int x2), .val (.int x3), .val (.ref b1), .val (.int (x3 &&& (3 : Int32))), .val (.ref h1.size), .val (.ref b58), .val (.int (1 : Int32)), .val (.int (1 : Int32)), .unset, .unset]) (S' := [.int (1 : Int32), .int (1 : Int32), .ref b58, .ref h1.size, .ref b1, .ref h58.size, .ref h58.size]) rfl ?_
            refine c_special C P77 (idx := 24) (y := (⟨"com/example/user_data_sweeper/userdatasweeper/Option", "<init>", "(Ljava/lang/String;Ljava/lang/String;Ljava/lang/String;ZZ)V"⟩ : MethodName)) (ybytes := prog_20_method_1_code) (ymax := 6) (yrm := ({ frames := 2, cells := 0, slots := 0, locals := 24 } : Room)) rfl (by decide +kernel) (hw _ (List.mem_of_getElem? (i := 29) rfl)) (hw _ (List.mem_of_getElem? (i := 30) rfl)) (hw _ (List.mem_of_getElem? (i := 28) rfl)) (hw _ (List.mem_of_getElem? (i := 31) rfl)) (by decide) [.ref b1, .ref h1.size, .ref b58, .int (1 : Int32), .int (1 : Int32)] [.ref h58.size] (k_opt_rr l wd (h58.size) b1 (h1.size) b58 (1 : Int32) (1 : Int32) P77.old B77 ⟨rfl, rfl⟩ ⟨rfl, rfl⟩) (le_ _ _ rfl) (W := 1) (le_ _ _ rfl) (by decide +kernel : parseMethodDescriptor "(Ljava/lang/String;Ljava/lang/String;Ljava/lang/String;ZZ)V" = some ⟨[(.object "java/lang/String"), (.object "java/lang/String"), (.object "java/lang/String"), .boolean, .boolean], none⟩) rfl rfl rfl (le_ _ _ rfl) (le_ _ _ rfl) (le_ _ _ rfl) (pc' := 114) rfl (fun T78 h78 P78 Q78 => ?_)
            replace P78 := P78.more (k' := 13) (n' := 37) (le_ _ _ rfl) (le_ _ _ rfl)
            obtain ⟨K78, A78, F78_0⟩ := Q78
            refine blk C P78 [.astore 10, .aload 4, .aload 7] (by decide +kernel) (pc' := 120) (L' := [.val (.int x0), .val (.int x1), .val (.int x2), .val (.int x3), .val (.ref b1), .val (.int (x3 &&& (3 : Int32))), .val (.ref h1.size), .val (.ref b58), .val (.int (1 : Int32)), .val (.int (1 : Int32)), .val (.ref h58.size), .unset]) (S' := [.ref b58, .ref b1]) rfl ?_
            refine c_static C P78 (idx := 27) (y := (⟨"com/example/user_data_sweeper/userdatasweeper/Option", "flag", "(Ljava/lang/String;Ljava/lang/String;)Lcom/example/user_data_sweeper/userdatasweeper/Option;"⟩ : MethodName)) (ybytes := prog_20_method_5_code) (ymax := 2) (yret := (some (.object "com/example/user_data_sweeper/userdatasweeper/Option"))) (yrm := ({ frames := 3, cells := 1, slots := 5, locals := 42 } : Room)) (by decide +kernel) (hw _ (List.mem_of_getElem? (i := 48) rfl)) (hw _ (List.mem_of_getElem? (i := 49) rfl)) (hw _ (List.mem_of_getElem? (i := 28) rfl)) (hw _ (List.mem_of_getElem? (i := 50) rfl)) (by decide) [.ref b1, .ref b58] [] (k_flag_r l wd b1 b58 P78.old ) (le_ _ _ rfl) (W := 0) (le_ _ _ rfl) (by decide +kernel : parseMethodDescriptor "(Ljava/lang/String;Ljava/lang/String;)Lcom/example/user_data_sweeper/userdatasweeper/Option;" = some ⟨[(.object "java/lang/String"), (.object "java/lang/String")], some (.object "com/example/user_data_sweeper/userdatasweeper/Option")⟩) rfl rfl rfl (le_ _ _ rfl) (le_ _ _ rfl) (le_ _ _ rfl) (pc' := 123) rfl (fun T79 h79 v79 P79 Q79 => ?_)
            replace P79 := P79.more (k' := 14) (n' := 42) (le_ _ _ rfl) (le_ _ _ rfl)
            obtain ⟨b79, rfl, E79, A79, F79⟩ := Q79
            refine blk C P79 [.astore 11, .aload 10] (by decide +kernel) (pc' := 127) (L' := [.val (.int x0), .val (.int x1), .val (.int x2), .val (.int x3), .val (.ref b1), .val (.int (x3 &&& (3 : Int32))), .val (.ref h1.size), .val (.ref b58), .val (.int (1 : Int32)), .val (.int (1 : Int32)), .val (.ref h58.size), .val (.ref b79)]) (S' := [.ref h58.size]) rfl ?_
            refine c_virtual C P79 (idx := 31) (y := (⟨"com/example/user_data_sweeper/userdatasweeper/Option", "isFlag", "()Z"⟩ : MethodName)) (K0 := "com/example/user_data_sweeper/userdatasweeper/Option") (ybytes := prog_20_method_6_code) (ymax := 1) (yret := (some .boolean)) (yrm := ({ frames := 0, cells := 0, slots := 0, locals := 0 } : Room)) (by decide +kernel) (hw _ (List.mem_of_getElem? (i := 53) rfl)) (hw _ (List.mem_of_getElem? (i := 54) rfl)) (hw _ (List.mem_of_getElem? (i := 56) rfl)) (hw _ (List.mem_of_getElem? (i := 55) rfl)) (hw _ (List.mem_of_getElem? (i := 28) rfl)) (hw _ (List.mem_of_getElem? (i := 57) rfl)) (by decide) (A78.ext E79) [] [] (k_isFlag_r l wd (h58.size) (h1.size) P79.old (F78_0.ext E79)) (le_ _ _ rfl) (W := 0) (le_ _ _ rfl) (by decide +kernel : parseMethodDescriptor "()Z" = some ⟨[], some .boolean⟩) rfl rfl rfl (le_ _ _ rfl) (le_ _ _ rfl) (le_ _ _ rfl) (pc' := 130) rfl (fun T80 h80 v80 P80 Q80 => ?_)
            replace P80 := P80.more (k' := 14) (n' := 42) (le_ _ _ rfl) (le_ _ _ rfl)
            obtain ⟨rfl, rfl⟩ := Q80
            refine blk C P80 [.aload 6] (by decide +kernel) (pc' := 132) (L' := [.val (.int x0), .val (.int x1), .val (.int x2), .val (.int x3), .val (.ref b1), .val (.int (x3 &&& (3 : Int32))), .val (.ref h1.size), .val (.ref b58), .val (.int (1 : Int32)), .val (.int (1 : Int32)), .val (.ref h58.size), .val (.ref b79)]) (S' := [.ref h1.size, .int (0 : Int32)]) rfl ?_
            refine b_nonnullY C P80 (o := 7) (by decide +kernel) (pc' := 139) (by decide) ?_
            refine blk C P80 [.iconst 0] (by decide +kernel) (pc' := 140) (L' := [.val (.int x0), .val (.int x1), .val (.int x2), .val (.int x3), .val (.ref b1), .val (.int (x3 &&& (3 : Int32))), .val (.ref h1.size), .val (.ref b58), .val (.int (1 : Int32)), .val (.int (1 : Int32)), .val (.ref h58.size), .val (.ref b79)]) (S' := [.int (0 : Int32), .int (0 : Int32)]) rfl ?_
            refine b_cmN C P80 (cd := .ne) (o := 15) (by decide +kernel) (pc' := 143) rfl (by decide : (0 : Int32) = (0 : Int32)) ?_
            refine blk C P80 [.aload 11] (by decide +kernel) (pc' := 145) (L' := [.val (.int x0), .val (.int x1), .val (.int x2), .val (.int x3), .val (.ref b1), .val (.int (x3 &&& (3 : Int32))), .val (.ref h1.size), .val (.ref b58), .val (.int (1 : Int32)), .val (.int (1 : Int32)), .val (.ref h58.size), .val (.ref b79)]) (S' := [.ref b79]) rfl ?_
            refine c_virtual C P80 (idx := 31) (y := (⟨"com/example/user_data_sweeper/userdatasweeper/Option", "isFlag", "()Z"⟩ : MethodName)) (K0 := "com/example/user_data_sweeper/userdatasweeper/Option") (ybytes := prog_20_method_6_code) (ymax := 1) (yret := (some .boolean)) (yrm := ({ frames := 0, cells := 0, slots := 0, locals := 0 } : Room)) (by decide +kernel) (hw _ (List.mem_of_getElem? (i := 53) rfl)) (hw _ (List.mem_of_getElem? (i := 54) rfl)) (hw _ (List.mem_of_getElem? (i := 56) rfl)) (hw _ (List.mem_of_getElem? (i := 55) rfl)) (hw _ (List.mem_of_getElem? (i := 28) rfl)) (hw _ (List.mem_of_getElem? (i := 57) rfl)) (by decide) A79 [] [] (k_isFlag_n l wd b79 P80.old F79) (le_ _ _ rfl) (W := 0) (le_ _ _ rfl) (by decide +kernel : parseMethodDescriptor "()Z" = some ⟨[], some .boolean⟩) rfl rfl rfl (le_ _ _ rfl) (le_ _ _ rfl) (le_ _ _ rfl) (pc' := 148) rfl (fun T81 h81 v81 P81 Q81 => ?_)
            replace P81 := P81.more (k' := 14) (n' := 42) (le_ _ _ rfl) (le_ _ _ rfl)
            obtain ⟨rfl, rfl⟩ := Q81
            refine b_ifN C P81 (cd := .eq) (o := 7) (by decide +kernel) (pc' := 151) rfl (by decide : ¬ (1 : Int32) = 0) ?_
            refine blk C P81 [.iconst 1] (by decide +kernel) (pc' := 152) (L' := [.val (.int x0), .val (.int x1), .val (.int x2), .val (.int x3), .val (.ref b1), .val (.int (x3 &&& (3 : Int32))), .val (.ref h1.size), .val (.ref b58), .val (.int (1 : Int32)), .val (.int (1 : Int32)), .val (.ref h58.size), .val (.ref b79)]) (S' := [.int (1 : Int32)]) rfl ?_
            refine b_goto C P81 (o := 4) (by decide +kernel) (pc' := 156) (by decide) ?_
            exact r_int C P81 (ty := .boolean) (by simp) rfl (by decide +kernel) (le_ _ _ rfl) (le_ _ _ rfl) ⟨_, rfl, rfl⟩
      · skip
        refine blk C P55 [.aconst_null] (by decide +kernel) (pc' := 58) (L' := [.val (.int x0), .val (.int x1), .val (.int x2), .val (.int x3), .val (.ref b1), .val (.int (x3 &&& (3 : Int32))), .val (.ref h1.size), .unset, .unset, .unset, .unset, .unset]) (S' := [.null]) rfl ?_
        refine b_goto C P55 (o := 7) (by decide +kernel) (pc' := 65) (by decide) ?_
        refine blk C P55 [.astore 7, .iload_n 3, .iconst 3, .iushr, .iconst 1, .iand] (by decide +kernel) (pc' := 72) (L' := [.val (.int x0), .val (.int x1), .val (.int x2), .val (.int x3), .val (.ref b1), .val (.int (x3 &&& (3 : Int32))), .val (.ref h1.size), .val (.null), .unset, .unset, .unset, .unset]) (S' := [.int ((XT.ushr x3 (3 : Int32)) &&& (1 : Int32))]) rfl ?_
        refine b_if C P55 (cd := .eq) (o := 7) (by decide +kernel) (pc' := 79) (by decide) (pn := 75) rfl (fun (q82 : ((XT.ushr x3 (3 : Int32)) &&& (1 : Int32)) = 0) => ?_) (fun (q82 : ¬ ((XT.ushr x3 (3 : Int32)) &&& (1 : Int32)) = 0) => ?_)
        · skip
          refine blk C P55 [.iconst 0, .istore 8, .iload_n 3, .iconst 4, .iushr, .iconst 1, .iand] (by decide +kernel) (pc' := 87) (L' := [.val (.int x0), .val (.int x1), .val (.int x2), .val (.int x3), .val (.ref b1), .val (.int (x3 &&& (3 : Int32))), .val (.ref h1.size), .val (.null), .val (.int (0 : Int32)), .unset, .unset, .unset]) (S' := [.int ((XT.ushr x3 (4 : Int32)) &&& (1 : Int32))]) rfl ?_
          refine b_if C P55 (cd := .eq) (o := 7) (by decide +kernel) (pc' := 94) (by decide) (pn := 90) rfl (fun (q83 : ((XT.ushr x3 (4 : Int32)) &&& (1 : Int32)) = 0) => ?_) (fun (q83 : ¬ ((XT.ushr x3 (4 : Int32)) &&& (1 : Int32)) = 0) => ?_)
          · skip
            refine blk C P55 [.iconst 0, .istore 9] (by decide +kernel) (pc' := 97) (L' := [.val (.int x0), .val (.int x1), .val (.int x2), .val (.int x3), .val (.ref b1), .val (.int (x3 &&& (3 : Int32))), .val (.ref h1.size), .val (.null), .val (.int (0 : Int32)), .val (.int (0 : Int32)), .unset, .unset]) (S' := []) rfl ?_
            refine s_new C P55 (idx := 22) (by decide +kernel) (hw _ (List.mem_of_getElem? (i := 26) rfl)) (hw _ (List.mem_of_getElem? (i := 27) rfl)) (hw _ (List.mem_of_getElem? (i := 28) rfl)) (le_ _ _ rfl) (le_ _ _ rfl) (pc' := 100) rfl (fun T84 h84 P84 E84 B84 => ?_)
            replace P84 := P84.more (k' := 9) (n' := 25) (le_ _ _ rfl) (le_ _ _ rfl)
            refine blk C P84 [.dup, .aload 4, .aload 6, .aload 7, .iload 8, .iload 9] (by decide +kernel) (pc' := 111) (L' := [.val (.int x0), .val (.int x1), .val (.int x2), .val (.int x3), .val (.ref b1), .val (.int (x3 &&& (3 : Int32))), .val (.ref h1.size), .val (.null), .val (.int (0 : Int32)), .val (.int (0 : Int32)), .unset, .unset]) (S' := [.int (0 : Int32), .int (0 : Int32), .null, .ref h1.size, .ref b1, .ref h55.size, .ref h55.size]) rfl ?_
            refine c_special C P84 (idx := 24) (y := (⟨"com/example/user_data_sweeper/userdatasweeper/Option", "<init>", "(Ljava/lang/String;Ljava/lang/String;Ljava/lang/String;ZZ)V"⟩ : MethodName)) (ybytes := prog_20_method_1_code) (ymax := 6) (yrm := ({ frames := 2, cells := 0, slots := 0, locals := 24 } : Room)) rfl (by decide +kernel) (hw _ (List.mem_of_getElem? (i := 29) rfl)) (hw _ (List.mem_of_getElem? (i := 30) rfl)) (hw _ (List.mem_of_getElem? (i := 28) rfl)) (hw _ (List.mem_of_getElem? (i := 31) rfl)) (by decide) [.ref b1, .ref h1.size, .null, .int (0 : Int32), .int (0 : Int32)] [.ref h55.size] (k_opt_rn l wd (h55.size) b1 (h1.size) (0 : Int32) (0 : Int32) P84.old B84 ⟨rfl, rfl⟩ ⟨rfl, rfl⟩) (le_ _ _ rfl) (W := 1) (le_ _ _ rfl) (by decide +kernel : parseMethodDescriptor "(Ljava/lang/String;Ljava/lang/String;Ljava/lang/String;ZZ)V" = some ⟨[(.object "java/lang/String"), (.object "java/lang/String"), (.object "java/lang/String"), .boolean, .boolean], none⟩) rfl rfl rfl (le_ _ _ rfl) (le_ _ _ rfl) (le_ _ _ rfl) (pc' := 114) rfl (fun T85 h85 P85 Q85 => ?_)
            replace P85 := P85.more (k' := 9) (n' := 25) (le_ _ _ rfl) (le_ _ _ rfl)
            obtain ⟨K85, A85, F85_0⟩ := Q85
            refine blk C P85 [.astore 10, .aload 4, .aload 7] (by decide +kernel) (pc' := 120) (L' := [.val (.int x0), .val (.int x1), .val (.int x2), .val (.int x3), .val (.ref b1), .val (.int (x3 &&& (3 : Int32))), .val (.ref h1.size), .val (.null), .val (.int (0 : Int32)), .val (.int (0 : Int32)), .val (.ref h55.size), .unset]) (S' := [.null, .ref b1]) rfl ?_
            refine c_static C P85 (idx := 27) (y := (⟨"com/example/user_data_sweeper/userdatasweeper/Option", "flag", "(Ljava/lang/String;Ljava/lang/String;)Lcom/example/user_data_sweeper/userdatasweeper/Option;"⟩ : MethodName)) (ybytes := prog_20_method_5_code) (ymax := 2) (yret := (some (.object "com/example/user_data_sweeper/userdatasweeper/Option"))) (yrm := ({ frames := 3, cells := 1, slots := 5, locals := 42 } : Room)) (by decide +kernel) (hw _ (List.mem_of_getElem? (i := 48) rfl)) (hw _ (List.mem_of_getElem? (i := 49) rfl)) (hw _ (List.mem_of_getElem? (i := 28) rfl)) (hw _ (List.mem_of_getElem? (i := 50) rfl)) (by decide) [.ref b1, .null] [] (k_flag_n l wd b1 P85.old ) (le_ _ _ rfl) (W := 0) (le_ _ _ rfl) (by decide +kernel : parseMethodDescriptor "(Ljava/lang/String;Ljava/lang/String;)Lcom/example/user_data_sweeper/userdatasweeper/Option;" = some ⟨[(.object "java/lang/String"), (.object "java/lang/String")], some (.object "com/example/user_data_sweeper/userdatasweeper/Option")⟩) rfl rfl rfl (le_ _ _ rfl) (le_ _ _ rfl) (le_ _ _ rfl) (pc' := 123) rfl (fun T86 h86 v86 P86 Q86 => ?_)
            replace P86 := P86.more (k' := 10) (n' := 30) (le_ _ _ rfl) (le_ _ _ rfl)
            obtain ⟨b86, rfl, E86, A86, F86⟩ := Q86
            refine blk C P86 [.astore 11, .aload 10] (by decide +kernel) (pc' := 127) (L' := [.val (.int x0), .val (.int x1), .val (.int x2), .val (.int x3), .val (.ref b1), .val (.int (x3 &&& (3 : Int32))), .val (.ref h1.size), .val (.null), .val (.int (0 : Int32)), .val (.int (0 : Int32)), .val (.ref h55.size), .val (.ref b86)]) (S' := [.ref h55.size]) rfl ?_
            refine c_virtual C P86 (idx := 31) (y := (⟨"com/example/user_data_sweeper/userdatasweeper/Option", "isFlag", "()Z"⟩ : MethodName)) (K0 := "com/example/user_data_sweeper/userdatasweeper/Option") (ybytes := prog_20_method_6_code) (ymax := 1) (yret := (some .boolean)) (yrm := ({ frames := 0, cells := 0, slots := 0, locals := 0 } : Room)) (by decide +kernel) (hw _ (List.mem_of_getElem? (i := 53) rfl)) (hw _ (List.mem_of_getElem? (i := 54) rfl)) (hw _ (List.mem_of_getElem? (i := 56) rfl)) (hw _ (List.mem_of_getElem? (i := 55) rfl)) (hw _ (List.mem_of_getElem? (i := 28) rfl)) (hw _ (List.mem_of_getElem? (i := 57) rfl)) (by decide) (A85.ext E86) [] [] (k_isFlag_r l wd (h55.size) (h1.size) P86.old (F85_0.ext E86)) (le_ _ _ rfl) (W := 0) (le_ _ _ rfl) (by decide +kernel : parseMethodDescriptor "()Z" = some ⟨[], some .boolean⟩) rfl rfl rfl (le_ _ _ rfl) (le_ _ _ rfl) (le_ _ _ rfl) (pc' := 130) rfl (fun T87 h87 v87 P87 Q87 => ?_)
            replace P87 := P87.more (k' := 10) (n' := 30) (le_ _ _ rfl) (le_ _ _ rfl)
            obtain ⟨rfl, rfl⟩ := Q87
            refine blk C P87 [.aload 6] (by decide +kernel) (pc' := 132) (L' := [.val (.int x0), .val (.int x1), .val (.int x2), .val (.int x3), .val (.ref b1), .val (.int (x3 &&& (3 : Int32))), .val (.ref h1.size), .val (.null), .val (.int (0 : Int32)), .val (.int (0 : Int32)), .val (.ref h55.size), .val (.ref b86)]) (S' := [.ref h1.size, .int (0 : Int32)]) rfl ?_
            refine b_nonnullY C P87 (o := 7) (by decide +kernel) (pc' := 139) (by decide) ?_
            refine blk C P87 [.iconst 0] (by decide +kernel) (pc' := 140) (L' := [.val (.int x0), .val (.int x1), .val (.int x2), .val (.int x3), .val (.ref b1), .val (.int (x3 &&& (3 : Int32))), .val (.ref h1.size), .val (.null), .val (.int (0 : Int32)), .val (.int (0 : Int32)), .val (.ref h55.size), .val (.ref b86)]) (S' := [.int (0 : Int32), .int (0 : Int32)]) rfl ?_
            refine b_cmN C P87 (cd := .ne) (o := 15) (by decide +kernel) (pc' := 143) rfl (by decide : (0 : Int32) = (0 : Int32)) ?_
            refine blk C P87 [.aload 11] (by decide +kernel) (pc' := 145) (L' := [.val (.int x0), .val (.int x1), .val (.int x2), .val (.int x3), .val (.ref b1), .val (.int (x3 &&& (3 : Int32))), .val (.ref h1.size), .val (.null), .val (.int (0 : Int32)), .val (.int (0 : Int32)), .val (.ref h55.size), .val (.ref b86)]) (S' := [.ref b86]) rfl ?_
            refine c_virtual C P87 (idx := 31) (y := (⟨"com/example/user_data_sweeper/userdatasweeper/Option", "isFlag", "()Z"⟩ : MethodName)) (K0 := "com/example/user_data_sweeper/userdatasweeper/Option") (ybytes := prog_20_method_6_code) (ymax := 1) (yret := (some .boolean)) (yrm := ({ frames := 0, cells := 0, slots := 0, locals := 0 } : Room)) (by decide +kernel) (hw _ (List.mem_of_getElem? (i := 53) rfl)) (hw _ (List.mem_of_getElem? (i := 54) rfl)) (hw _ (List.mem_of_getElem? (i := 56) rfl)) (hw _ (List.mem_of_getElem? (i := 55) rfl)) (hw _ (List.mem_of_getElem? (i := 28) rfl)) (hw _ (List.mem_of_getElem? (i := 57) rfl)) (by decide) A86 [] [] (k_isFlag_n l wd b86 P87.old F86) (le_ _ _ rfl) (W := 0) (le_ _ _ rfl) (by decide +kernel : parseMethodDescriptor "()Z" = some ⟨[], some .boolean⟩) rfl rfl rfl (le_ _ _ rfl) (le_ _ _ rfl) (le_ _ _ rfl) (pc' := 148) rfl (fun T88 h88 v88 P88 Q88 => ?_)
            replace P88 := P88.more (k' := 10) (n' := 30) (le_ _ _ rfl) (le_ _ _ rfl)
            obtain ⟨rfl, rfl⟩ := Q88
            refine b_ifN C P88 (cd := .eq) (o := 7) (by decide +kernel) (pc' := 151) rfl (by decide : ¬ (1 : Int32) = 0) ?_
            refine blk C P88 [.iconst 1] (by decide +kernel) (pc' := 152) (L' := [.val (.int x0), .val (.int x1), .val (.int x2), .val (.int x3), .val (.ref b1), .val (.int (x3 &&& (3 : Int32))), .val (.ref h1.size), .val (.null), .val (.int (0 : Int32)), .val (.int (0 : Int32)), .val (.ref h55.size), .val (.ref b86)]) (S' := [.int (1 : Int32)]) rfl ?_
            refine b_goto C P88 (o := 4) (by decide +kernel) (pc' := 156) (by decide) ?_
            exact r_int C P88 (ty := .boolean) (by simp) rfl (by decide +kernel) (le_ _ _ rfl) (le_ _ _ rfl) ⟨_, rfl, rfl⟩
          · skip
            refine blk C P55 [.iconst 1] (by decide +kernel) (pc' := 91) (L' := [.val (.int x0), .val (.int x1), .val (.int x2), .val (.int x3), .val (.ref b1), .val (.int (x3 &&& (3 : Int32))), .val (.ref h1.size), .val (.null), .val (.int (0 : Int32)), .unset, .unset, .unset]) (S' := [.int (1 : Int32)]) rfl ?_
            refine b_goto C P55 (o := 4) (by decide +kernel) (pc' := 95) (by decide) ?_
            refine blk C P55 [.istore 9] (by decide +kernel) (pc' := 97) (L' := [.val (.int x0), .val (.int x1), .val (.int x2), .val (.int x3), .val (.ref b1), .val (.int (x3 &&& (3 : Int32))), .val (.ref h1.size), .val (.null), .val (.int (0 : Int32)), .val (.int (1 : Int32)), .unset, .unset]) (S' := []) rfl ?_
            refine s_new C P55 (idx := 22) (by decide +kernel) (hw _ (List.mem_of_getElem? (i := 26) rfl)) (hw _ (List.mem_of_getElem? (i := 27) rfl)) (hw _ (List.mem_of_getElem? (i := 28) rfl)) (le_ _ _ rfl) (le_ _ _ rfl) (pc' := 100) rfl (fun T89 h89 P89 E89 B89 => ?_)
            replace P89 := P89.more (k' := 9) (n' := 25) (le_ _ _ rfl) (le_ _ _ rfl)
            refine blk C P89 [.dup, .aload 4, .aload 6, .aload 7, .iload 8, .iload 9] (by decide +kernel) (pc' := 111) (L' := [.val (.int x0), .val (.int x1), .val (.int x2), .val (.int x3), .val (.ref b1), .val (.int (x3 &&& (3 : Int32))), .val (.ref h1.size), .val (.null), .val (.int (0 : Int32)), .val (.int (1 : Int32)), .unset, .unset]) (S' := [.int (1 : Int32), .int (0 : Int32), .null, .ref h1.size, .ref b1, .ref h55.size, .ref h55.size]) rfl ?_
            refine c_special C P89 (idx := 24) (y := (⟨"com/example/user_data_sweeper/userdatasweeper/Option", "<init>", "(Ljava/lang/String;Ljava/lang/String;Ljava/lang/String;ZZ)V"⟩ : MethodName)) (ybytes := prog_20_method_1_code) (ymax := 6) (yrm := ({ frames := 2, cells := 0, slots := 0, locals := 24 } : Room)) rfl (by decide +kernel) (hw _ (List.mem_of_getElem? (i := 29) rfl)) (hw _ (List.mem_of_getElem? (i := 30) rfl)) (hw _ (List.mem_of_getElem? (i := 28) rfl)) (hw _ (List.mem_of_getElem? (i := 31) rfl)) (by decide) [.ref b1, .ref h1.size, .null, .int (0 : Int32), .int (1 : Int32)] [.ref h55.size] (k_opt_rn l wd (h55.size) b1 (h1.size) (0 : Int32) (1 : Int32) P89.old B89 ⟨rfl, rfl⟩ ⟨rfl, rfl⟩) (le_ _ _ rfl) (W := 1) (le_ _ _ rfl) (by decide +kernel : parseMethodDescriptor "(Ljava/lang/String;Ljava/lang/String;Ljava/lang/String;ZZ)V" = some ⟨[(.object "java/lang/String"), (.object "java/lang/String"), (.object "java/lang/String"), .boolean, .boolean], none⟩) rfl rfl rfl (le_ _ _ rfl) (le_ _ _ rfl) (le_ _ _ rfl) (pc' := 114) rfl (fun T90 h90 P90 Q90 => ?_)
            replace P90 := P90.more (k' := 9) (n' := 25) (le_ _ _ rfl) (le_ _ _ rfl)
            obtain ⟨K90, A90, F90_0⟩ := Q90
            refine blk C P90 [.astore 10, .aload 4, .aload 7] (by decide +kernel) (pc' := 120) (L' := [.val (.int x0), .val (.int x1), .val (.int x2), .val (.int x3), .val (.ref b1), .val (.int (x3 &&& (3 : Int32))), .val (.ref h1.size), .val (.null), .val (.int (0 : Int32)), .val (.int (1 : Int32)), .val (.ref h55.size), .unset]) (S' := [.null, .ref b1]) rfl ?_
            refine c_static C P90 (idx := 27) (y := (⟨"com/example/user_data_sweeper/userdatasweeper/Option", "flag", "(Ljava/lang/String;Ljava/lang/String;)Lcom/example/user_data_sweeper/userdatasweeper/Option;"⟩ : MethodName)) (ybytes := prog_20_method_5_code) (ymax := 2) (yret := (some (.object "com/example/user_data_sweeper/userdatasweeper/Option"))) (yrm := ({ frames := 3, cells := 1, slots := 5, locals := 42 } : Room)) (by decide +kernel) (hw _ (List.mem_of_getElem? (i := 48) rfl)) (hw _ (List.mem_of_getElem? (i := 49) rfl)) (hw _ (List.mem_of_getElem? (i := 28) rfl)) (hw _ (List.mem_of_getElem? (i := 50) rfl)) (by decide) [.ref b1, .null] [] (k_flag_n l wd b1 P90.old ) (le_ _ _ rfl) (W := 0) (le_ _ _ rfl) (by decide +kernel : parseMethodDescriptor "(Ljava/lang/String;Ljava/lang/String;)Lcom/example/user_data_sweeper/userdatasweeper/Option;" = some ⟨[(.object "java/lang/String"), (.object "java/lang/String")], some (.object "com/example/user_data_sweeper/userdatasweeper/Option")⟩) rfl rfl rfl (le_ _ _ rfl) (le_ _ _ rfl) (le_ _ _ rfl) (pc' := 123) rfl (fun T91 h91 v91 P91 Q91 => ?_)
            replace P91 := P91.more (k' := 10) (n' := 30) (le_ _ _ rfl) (le_ _ _ rfl)
            obtain ⟨b91, rfl, E91, A91, F91⟩ := Q91
            refine blk C P91 [.astore 11, .aload 10] (by decide +kernel) (pc' := 127) (L' := [.val (.int x0), .val (.int x1), .val (.int x2), .val (.int x3), .val (.ref b1), .val (.int (x3 &&& (3 : Int32))), .val (.ref h1.size), .val (.null), .val (.int (0 : Int32)), .val (.int (1 : Int32)), .val (.ref h55.size), .val (.ref b91)]) (S' := [.ref h55.size]) rfl ?_
            refine c_virtual C P91 (idx := 31) (y := (⟨"com/example/user_data_sweeper/userdatasweeper/Option", "isFlag", "()Z"⟩ : MethodName)) (K0 := "com/example/user_data_sweeper/userdatasweeper/Option") (ybytes := prog_20_method_6_code) (ymax := 1) (yret := (some .boolean)) (yrm := ({ frames := 0, cells := 0, slots := 0, locals := 0 } : Room)) (by decide +kernel) (hw _ (List.mem_of_getElem? (i := 53) rfl)) (hw _ (List.mem_of_getElem? (i := 54) rfl)) (hw _ (List.mem_of_getElem? (i := 56) rfl)) (hw _ (List.mem_of_getElem? (i := 55) rfl)) (hw _ (List.mem_of_getElem? (i := 28) rfl)) (hw _ (List.mem_of_getElem? (i := 57) rfl)) (by decide) (A90.ext E91) [] [] (k_isFlag_r l wd (h55.size) (h1.size) P91.old (F90_0.ext E91)) (le_ _ _ rfl) (W := 0) (le_ _ _ rfl) (by decide +kernel : parseMethodDescriptor "()Z" = some ⟨[], some .boolean⟩) rfl rfl rfl (le_ _ _ rfl) (le_ _ _ rfl) (le_ _ _ rfl) (pc' := 130) rfl (fun T92 h92 v92 P92 Q92 => ?_)
            replace P92 := P92.more (k' := 10) (n' := 30) (le_ _ _ rfl) (le_ _ _ rfl)
            obtain ⟨rfl, rfl⟩ := Q92
            refine blk C P92 [.aload 6] (by decide +kernel) (pc' := 132) (L' := [.val (.int x0), .val (.int x1), .val (.int x2), .val (.int x3), .val (.ref b1), .val (.int (x3 &&& (3 : Int32))), .val (.ref h1.size), .val (.null), .val (.int (0 : Int32)), .val (.int (1 : Int32)), .val (.ref h55.size), .val (.ref b91)]) (S' := [.ref h1.size, .int (0 : Int32)]) rfl ?_
            refine b_nonnullY C P92 (o := 7) (by decide +kernel) (pc' := 139) (by decide) ?_
            refine blk C P92 [.iconst 0] (by decide +kernel) (pc' := 140) (L' := [.val (.int x0), .val (.int x1), .val (.int x2), .val (.int x3), .val (.ref b1), .val (.int (x3 &&& (3 : Int32))), .val (.ref h1.size), .val (.null), .val (.int (0 : Int32)), .val (.int (1 : Int32)), .val (.ref h55.size), .val (.ref b91)]) (S' := [.int (0 : Int32), .int (0 : Int32)]) rfl ?_
            refine b_cmN C P92 (cd := .ne) (o := 15) (by decide +kernel) (pc' := 143) rfl (by decide : (0 : Int32) = (0 : Int32)) ?_
            refine blk C P92 [.aload 11] (by decide +kernel) (pc' := 145) (L' := [.val (.int x0), .val (.int x1), .val (.int x2), .val (.int x3), .val (.ref b1), .val (.int (x3 &&& (3 : Int32))), .val (.ref h1.size), .val (.null), .val (.int (0 : Int32)), .val (.int (1 : Int32)), .val (.ref h55.size), .val (.ref b91)]) (S' := [.ref b91]) rfl ?_
            refine c_virtual C P92 (idx := 31) (y := (⟨"com/example/user_data_sweeper/userdatasweeper/Option", "isFlag", "()Z"⟩ : MethodName)) (K0 := "com/example/user_data_sweeper/userdatasweeper/Option") (ybytes := prog_20_method_6_code) (ymax := 1) (yret := (some .boolean)) (yrm := ({ frames := 0, cells := 0, slots := 0, locals := 0 } : Room)) (by decide +kernel) (hw _ (List.mem_of_getElem? (i := 53) rfl)) (hw _ (List.mem_of_getElem? (i := 54) rfl)) (hw _ (List.mem_of_getElem? (i := 56) rfl)) (hw _ (List.mem_of_getElem? (i := 55) rfl)) (hw _ (List.mem_of_getElem? (i := 28) rfl)) (hw _ (List.mem_of_getElem? (i := 57) rfl)) (by decide) A91 [] [] (k_isFlag_n l wd b91 P92.old F91) (le_ _ _ rfl) (W := 0) (le_ _ _ rfl) (by decide +kernel : parseMethodDescriptor "()Z" = some ⟨[], some .boolean⟩) rfl rfl rfl (le_ _ _ rfl) (le_ _ _ rfl) (le_ _ _ rfl) (pc' := 148) rfl (fun T93 h93 v93 P93 Q93 => ?_)
            replace P93 := P93.more (k' := 10) (n' := 30) (le_ _ _ rfl) (le_ _ _ rfl)
            obtain ⟨rfl, rfl⟩ := Q93
            refine b_ifN C P93 (cd := .eq) (o := 7) (by decide +kernel) (pc' := 151) rfl (by decide : ¬ (1 : Int32) = 0) ?_
            refine blk C P93 [.iconst 1] (by decide +kernel) (pc' := 152) (L' := [.val (.int x0), .val (.int x1), .val (.int x2), .val (.int x3), .val (.ref b1), .val (.int (x3 &&& (3 : Int32))), .val (.ref h1.size), .val (.null), .val (.int (0 : Int32)), .val (.int (1 : Int32)), .val (.ref h55.size), .val (.ref b91)]) (S' := [.int (1 : Int32)]) rfl ?_
            refine b_goto C P93 (o := 4) (by decide +kernel) (pc' := 156) (by decide) ?_
            exact r_int C P93 (ty := .boolean) (by simp) rfl (by decide +kernel) (le_ _ _ rfl) (le_ _ _ rfl) ⟨_, rfl, rfl⟩
        · skip
          refine blk C P55 [.iconst 1] (by decide +kernel) (pc' := 76) (L' := [.val (.int x0), .val (.int x1), .val (.int x2), .val (.int x3), .val (.ref b1), .val (.int (x3 &&& (3 : Int32))), .val (.ref h1.size), .val (.null), .unset, .unset, .unset, .unset]) (S' := [.int (1 : Int32)]) rfl ?_
          refine b_goto C P55 (o := 4) (by decide +kernel) (pc' := 80) (by decide) ?_
          refine blk C P55 [.istore 8, .iload_n 3, .iconst 4, .iushr, .iconst 1, .iand] (by decide +kernel) (pc' := 87) (L' := [.val (.int x0), .val (.int x1), .val (.int x2), .val (.int x3), .val (.ref b1), .val (.int (x3 &&& (3 : Int32))), .val (.ref h1.size), .val (.null), .val (.int (1 : Int32)), .unset, .unset, .unset]) (S' := [.int ((XT.ushr x3 (4 : Int32)) &&& (1 : Int32))]) rfl ?_
          refine b_if C P55 (cd := .eq) (o := 7) (by decide +kernel) (pc' := 94) (by decide) (pn := 90) rfl (fun (q94 : ((XT.ushr x3 (4 : Int32)) &&& (1 : Int32)) = 0) => ?_) (fun (q94 : ¬ ((XT.ushr x3 (4 : Int32)) &&& (1 : Int32)) = 0) => ?_)
          · skip
            refine blk C P55 [.iconst 0, .istore 9] (by decide +kernel) (pc' := 97) (L' := [.val (.int x0), .val (.int x1), .val (.int x2), .val (.int x3), .val (.ref b1), .val (.int (x3 &&& (3 : Int32))), .val (.ref h1.size), .val (.null), .val (.int (1 : Int32)), .val (.int (0 : Int32)), .unset, .unset]) (S' := []) rfl ?_
            refine s_new C P55 (idx := 22) (by decide +kernel) (hw _ (List.mem_of_getElem? (i := 26) rfl)) (hw _ (List.mem_of_getElem? (i := 27) rfl)) (hw _ (List.mem_of_getElem? (i := 28) rfl)) (le_ _ _ rfl) (le_ _ _ rfl) (pc' := 100) rfl (fun T95 h95 P95 E95 B95 => ?_)
            replace P95 := P95.more (k' := 9) (n' := 25) (le_ _ _ rfl) (le_ _ _ rfl)
            refine blk C P95 [.dup, .aload 4, .aload 6, .aload 7, .iload 8, .iload 9] (by decide +kernel) (pc' := 111) (L' := [.val (.int x0), .val (.int x1), .val (.int x2), .val (.int x3), .val (.ref b1), .val (.int (x3 &&& (3 : Int32))), .val (.ref h1.size), .val (.null), .val (.int (1 : Int32)), .val (.int (0 : Int32)), .unset, .unset]) (S' := [.int (0 : Int32), .int (1 : Int32), .null, .ref h1.size, .ref b1, .ref h55.size, .ref h55.size]) rfl ?_
            refine c_special C P95 (idx := 24) (y := (⟨"com/example/user_data_sweeper/userdatasweeper/Option", "<init>", "(Ljava/lang/String;Ljava/lang/String;Ljava/lang/String;ZZ)V"⟩ : MethodName)) (ybytes := prog_20_method_1_code) (ymax := 6) (yrm := ({ frames := 2, cells := 0, slots := 0, locals := 24 } : Room)) rfl (by decide +kernel) (hw _ (List.mem_of_getElem? (i := 29) rfl)) (hw _ (List.mem_of_getElem? (i := 30) rfl)) (hw _ (List.mem_of_getElem? (i := 28) rfl)) (hw _ (List.mem_of_getElem? (i := 31) rfl)) (by decide) [.ref b1, .ref h1.size, .null, .int (1 : Int32), .int (0 : Int32)] [.ref h55.size] (k_opt_rn l wd (h55.size) b1 (h1.size) (1 : Int32) (0 : Int32) P95.old B95 ⟨rfl, rfl⟩ ⟨rfl, rfl⟩) (le_ _ _ rfl) (W := 1) (le_ _ _ rfl) (by decide +kernel : parseMethodDescriptor "(Ljava/lang/String;Ljava/lang/String;Ljava/lang/String;ZZ)V" = some ⟨[(.object "java/lang/String"), (.object "java/lang/String"), (.object "java/lang/String"), .boolean, .boolean], none⟩) rfl rfl rfl (le_ _ _ rfl) (le_ _ _ rfl) (le_ _ _ rfl) (pc' := 114) rfl (fun T96 h96 P96 Q96 => ?_)
            replace P96 := P96.more (k' := 9) (n' := 25) (le_ _ _ rfl) (le_ _ _ rfl)
            obtain ⟨K96, A96, F96_0⟩ := Q96
            refine blk C P96 [.astore 10, .aload 4, .aload 7] (by decide +kernel) (pc' := 120) (L' := [.val (.int x0), .val (.int x1), .val (.int x2), .val (.int x3), .val (.ref b1), .val (.int (x3 &&& (3 : Int32))), .val (.ref h1.size), .val (.null), .val (.int (1 : Int32)), .val (.int (0 : Int32)), .val (.ref h55.size), .unset]) (S' := [.null, .ref b1]) rfl ?_
            refine c_static C P96 (idx := 27) (y := (⟨"com/example/user_data_sweeper/userdatasweeper/Option", "flag", "(Ljava/lang/String;Ljava/lang/String;)Lcom/example/user_data_sweeper/userdatasweeper/Option;"⟩ : MethodName)) (ybytes := prog_20_method_5_code) (ymax := 2) (yret := (some (.object "com/example/user_data_sweeper/userdatasweeper/Option"))) (yrm := ({ frames := 3, cells := 1, slots := 5, locals := 42 } : Room)) (by decide +kernel) (hw _ (List.mem_of_getElem? (i := 48) rfl)) (hw _ (List.mem_of_getElem? (i := 49) rfl)) (hw _ (List.mem_of_getElem? (i := 28) rfl)) (hw _ (List.mem_of_getElem? (i := 50) rfl)) (by decide) [.ref b1, .null] [] (k_flag_n l wd b1 P96.old ) (le_ _ _ rfl) (W := 0) (le_ _ _ rfl) (by decide +kernel : parseMethodDescriptor "(Ljava/lang/String;Ljava/lang/String;)Lcom/example/user_data_sweeper/userdatasweeper/Option;" = some ⟨[(.object "java/lang/String"), (.object "java/lang/String")], some (.object "com/example/user_data_sweeper/userdatasweeper/Option")⟩) rfl rfl rfl (le_ _ _ rfl) (le_ _ _ rfl) (le_ _ _ rfl) (pc' := 123) rfl (fun T97 h97 v97 P97 Q97 => ?_)
            replace P97 := P97.more (k' := 10) (n' := 30) (le_ _ _ rfl) (le_ _ _ rfl)
            obtain ⟨b97, rfl, E97, A97, F97⟩ := Q97
            refine blk C P97 [.astore 11, .aload 10] (by decide +kernel) (pc' := 127) (L' := [.val (.int x0), .val (.int x1), .val (.int x2), .val (.int x3), .val (.ref b1), .val (.int (x3 &&& (3 : Int32))), .val (.ref h1.size), .val (.null), .val (.int (1 : Int32)), .val (.int (0 : Int32)), .val (.ref h55.size), .val (.ref b97)]) (S' := [.ref h55.size]) rfl ?_
            refine c_virtual C P97 (idx := 31) (y := (⟨"com/example/user_data_sweeper/userdatasweeper/Option", "isFlag", "()Z"⟩ : MethodName)) (K0 := "com/example/user_data_sweeper/userdatasweeper/Option") (ybytes := prog_20_method_6_code) (ymax := 1) (yret := (some .boolean)) (yrm := ({ frames := 0, cells := 0, slots := 0, locals := 0 } : Room)) (by decide +kernel) (hw _ (List.mem_of_getElem? (i := 53) rfl)) (hw _ (List.mem_of_getElem? (i := 54) rfl)) (hw _ (List.mem_of_getElem? (i := 56) rfl)) (hw _ (List.mem_of_getElem? (i := 55) rfl)) (hw _ (List.mem_of_getElem? (i := 28) rfl)) (hw _ (List.mem_of_getElem? (i := 57) rfl)) (by decide) (A96.ext E97) [] [] (k_isFlag_r l wd (h55.size) (h1.size) P97.old (F96_0.ext E97)) (le_ _ _ rfl) (W := 0) (le_ _ _ rfl) (by decide +kernel : parseMethodDescriptor "()Z" = some ⟨[], some .boolean⟩) rfl rfl rfl (le_ _ _ rfl) (le_ _ _ rfl) (le_ _ _ rfl) (pc' := 130) rfl (fun T98 h98 v98 P98 Q98 => ?_)
            replace P98 := P98.more (k' := 10) (n' := 30) (le_ _ _ rfl) (le_ _ _ rfl)
            obtain ⟨rfl, rfl⟩ := Q98
            refine blk C P98 [.aload 6] (by decide +kernel) (pc' := 132) (L' := [.val (.int x0), .val (.int x1), .val (.int x2), .val (.int x3), .val (.ref b1), .val (.int (x3 &&& (3 : Int32))), .val (.ref h1.size), .val (.null), .val (.int (1 : Int32)), .val (.int (0 : Int32)), .val (.ref h55.size), .val (.ref b97)]) (S' := [.ref h1.size, .int (0 : Int32)]) rfl ?_
            refine b_nonnullY C P98 (o := 7) (by decide +kernel) (pc' := 139) (by decide) ?_
            refine blk C P98 [.iconst 0] (by decide +kernel) (pc' := 140) (L' := [.val (.int x0), .val (.int x1), .val (.int x2), .val (.int x3), .val (.ref b1), .val (.int (x3 &&& (3 : Int32))), .val (.ref h1.size), .val (.null), .val (.int (1 : Int32)), .val (.int (0 : Int32)), .val (.ref h55.size), .val (.ref b97)]) (S' := [.int (0 : Int32), .int (0 : Int32)]) rfl ?_
            refine b_cmN C P98 (cd := .ne) (o := 15) (by decide +kernel) (pc' := 143) rfl (by decide : (0 : Int32) = (0 : Int32)) ?_
            refine blk C P98 [.aload 11] (by decide +kernel) (pc' := 145) (L' := [.val (.int x0), .val (.int x1), .val (.int x2), .val (.int x3), .val (.ref b1), .val (.int (x3 &&& (3 : Int32))), .val (.ref h1.size), .val (.null), .val (.int (1 : Int32)), .val (.int (0 : Int32)), .val (.ref h55.size), .val (.ref b97)]) (S' := [.ref b97]) rfl ?_
            refine c_virtual C P98 (idx := 31) (y := (⟨"com/example/user_data_sweeper/userdatasweeper/Option", "isFlag", "()Z"⟩ : MethodName)) (K0 := "com/example/user_data_sweeper/userdatasweeper/Option") (ybytes := prog_20_method_6_code) (ymax := 1) (yret := (some .boolean)) (yrm := ({ frames := 0, cells := 0, slots := 0, locals := 0 } : Room)) (by decide +kernel) (hw _ (List.mem_of_getElem? (i := 53) rfl)) (hw _ (List.mem_of_getElem? (i := 54) rfl)) (hw _ (List.mem_of_getElem? (i := 56) rfl)) (hw _ (List.mem_of_getElem? (i := 55) rfl)) (hw _ (List.mem_of_getElem? (i := 28) rfl)) (hw _ (List.mem_of_getElem? (i := 57) rfl)) (by decide) A97 [] [] (k_isFlag_n l wd b97 P98.old F97) (le_ _ _ rfl) (W := 0) (le_ _ _ rfl) (by decide +kernel : parseMethodDescriptor "()Z" = some ⟨[], some .boolean⟩) rfl rfl rfl (le_ _ _ rfl) (le_ _ _ rfl) (le_ _ _ rfl) (pc' := 148) rfl (fun T99 h99 v99 P99 Q99 => ?_)
            replace P99 := P99.more (k' := 10) (n' := 30) (le_ _ _ rfl) (le_ _ _ rfl)
            obtain ⟨rfl, rfl⟩ := Q99
            refine b_ifN C P99 (cd := .eq) (o := 7) (by decide +kernel) (pc' := 151) rfl (by decide : ¬ (1 : Int32) = 0) ?_
            refine blk C P99 [.iconst 1] (by decide +kernel) (pc' := 152) (L' := [.val (.int x0), .val (.int x1), .val (.int x2), .val (.int x3), .val (.ref b1), .val (.int (x3 &&& (3 : Int32))), .val (.ref h1.size), .val (.null), .val (.int (1 : Int32)), .val (.int (0 : Int32)), .val (.ref h55.size), .val (.ref b97)]) (S' := [.int (1 : Int32)]) rfl ?_
            refine b_goto C P99 (o := 4) (by decide +kernel) (pc' := 156) (by decide) ?_
            exact r_int C P99 (ty := .boolean) (by simp) rfl (by decide +kernel) (le_ _ _ rfl) (le_ _ _ rfl) ⟨_, rfl, rfl⟩
          · skip
            refine blk C P55 [.iconst 1] (by decide +kernel) (pc' := 91) (L' := [.val (.int x0), .val (.int x1), .val (.int x2), .val (.int x3), .val (.ref b1), .val (.int (x3 &&& (3 : Int32))), .val (.ref h1.size), .val (.null), .val (.int (1 : Int32)), .unset, .unset, .unset]) (S' := [.int (1 : Int32)]) rfl ?_
            refine b_goto C P55 (o := 4) (by decide +kernel) (pc' := 95) (by decide) ?_
            refine blk C P55 [.istore 9] (by decide +kernel) (pc' := 97) (L' := [.val (.int x0), .val (.int x1), .val (.int x2), .val (.int x3), .val (.ref b1), .val (.int (x3 &&& (3 : Int32))), .val (.ref h1.size), .val (.null), .val (.int (1 : Int32)), .val (.int (1 : Int32)), .unset, .unset]) (S' := []) rfl ?_
            refine s_new C P55 (idx := 22) (by decide +kernel) (hw _ (List.mem_of_getElem? (i := 26) rfl)) (hw _ (List.mem_of_getElem? (i := 27) rfl)) (hw _ (List.mem_of_getElem? (i := 28) rfl)) (le_ _ _ rfl) (le_ _ _ rfl) (pc' := 100) rfl (fun T100 h100 P100 E100 B100 => ?_)
            replace P100 := P100.more (k' := 9) (n' := 25) (le_ _ _ rfl) (le_ _ _ rfl)
            refine blk C P100 [.dup, .aload 4, .aload 6, .aload 7, .iload 8, .iload 9] (by decide +kernel) (pc' := 111) (L' := [.val (.int x0), .val (.int x1), .val (.int x2), .val (.int x3), .val (.ref b1), .val (.int (x3 &&& (3 : Int32))), .val (.ref h1.size), .val (.null), .val (.int (1 : Int32)), .val (.int (1 : Int32)), .unset, .unset]) (S' := [.int (1 : Int32), .int (1 : Int32), .null, .ref h1.size, .ref b1, .ref h55.size, .ref h55.size]) rfl ?_
            refine c_special C P100 (idx := 24) (y := (⟨"com/example/user_data_sweeper/userdatasweeper/Option", "<init>", "(Ljava/lang/String;Ljava/lang/String;Ljava/lang/String;ZZ)V"⟩ : MethodName)) (ybytes := prog_20_method_1_code) (ymax := 6) (yrm := ({ frames := 2, cells := 0, slots := 0, locals := 24 } : Room)) rfl (by decide +kernel) (hw _ (List.mem_of_getElem? (i := 29) rfl)) (hw _ (List.mem_of_getElem? (i := 30) rfl)) (hw _ (List.mem_of_getElem? (i := 28) rfl)) (hw _ (List.mem_of_getElem? (i := 31) rfl)) (by decide) [.ref b1, .ref h1.size, .null, .int (1 : Int32), .int (1 : Int32)] [.ref h55.size] (k_opt_rn l wd (h55.size) b1 (h1.size) (1 : Int32) (1 : Int32) P100.old B100 ⟨rfl, rfl⟩ ⟨rfl, rfl⟩) (le_ _ _ rfl) (W := 1) (le_ _ _ rfl) (by decide +kernel : parseMethodDescriptor "(Ljava/lang/String;Ljava/lang/String;Ljava/lang/String;ZZ)V" = some ⟨[(.object "java/lang/String"), (.object "java/lang/String"), (.object "java/lang/String"), .boolean, .boolean], none⟩) rfl rfl rfl (le_ _ _ rfl) (le_ _ _ rfl) (le_ _ _ rfl) (pc' := 114) rfl (fun T101 h101 P101 Q101 => ?_)
            replace P101 := P101.more (k' := 9) (n' := 25) (le_ _ _ rfl) (le_ _ _ rfl)
            obtain ⟨K101, A101, F101_0⟩ := Q101
            refine blk C P101 [.astore 10, .aload 4, .aload 7] (by decide +kernel) (pc' := 120) (L' := [.val (.int x0), .val (.int x1), .val (.int x2), .val (.int x3), .val (.ref b1), .val (.int (x3 &&& (3 : Int32))), .val (.ref h1.size), .val (.null), .val (.int (1 : Int32)), .val (.int (1 : Int32)), .val (.ref h55.size), .unset]) (S' := [.null, .ref b1]) rfl ?_
            refine c_static C P101 (idx := 27) (y := (⟨"com/example/user_data_sweeper/userdatasweeper/Option", "flag", "(Ljava/lang/String;Ljava/lang/String;)Lcom/example/user_data_sweeper/userdatasweeper/Option;"⟩ : MethodName)) (ybytes := prog_20_method_5_code) (ymax := 2) (yret := (some (.object "com/example/user_data_sweeper/userdatasweeper/Option"))) (yrm := ({ frames := 3, cells := 1, slots := 5, locals := 42 } : Room)) (by decide +kernel) (hw _ (List.mem_of_getElem? (i := 48) rfl)) (hw _ (List.mem_of_getElem? (i := 49) rfl)) (hw _ (List.mem_of_getElem? (i := 28) rfl)) (hw _ (List.mem_of_getElem? (i := 50) rfl)) (by decide) [.ref b1, .null] [] (k_flag_n l wd b1 P101.old ) (le_ _ _ rfl) (W := 0) (le_ _ _ rfl) (by decide +kernel : parseMethodDescriptor "(Ljava/lang/String;Ljava/lang/String;)Lcom/example/user_data_sweeper/userdatasweeper/Option;" = some ⟨[(.object "java/lang/String"), (.object "java/lang/String")], some (.object "com/example/user_data_sweeper/userdatasweeper/Option")⟩) rfl rfl rfl (le_ _ _ rfl) (le_ _ _ rfl) (le_ _ _ rfl) (pc' := 123) rfl (fun T102 h102 v102 P102 Q102 => ?_)
            replace P102 := P102.more (k' := 10) (n' := 30) (le_ _ _ rfl) (le_ _ _ rfl)
            obtain ⟨b102, rfl, E102, A102, F102⟩ := Q102
            refine blk C P102 [.astore 11, .aload 10] (by decide +kernel) (pc' := 127) (L' := [.val (.int x0), .val (.int x1), .val (.int x2), .val (.int x3), .val (.ref b1), .val (.int (x3 &&& (3 : Int32))), .val (.ref h1.size), .val (.null), .val (.int (1 : Int32)), .val (.int (1 : Int32)), .val (.ref h55.size), .val (.ref b102)]) (S' := [.ref h55.size]) rfl ?_
            refine c_virtual C P102 (idx := 31) (y := (⟨"com/example/user_data_sweeper/userdatasweeper/Option", "isFlag", "()Z"⟩ : MethodName)) (K0 := "com/example/user_data_sweeper/userdatasweeper/Option") (ybytes := prog_20_method_6_code) (ymax := 1) (yret := (some .boolean)) (yrm := ({ frames := 0, cells := 0, slots := 0, locals := 0 } : Room)) (by decide +kernel) (hw _ (List.mem_of_getElem? (i := 53) rfl)) (hw _ (List.mem_of_getElem? (i := 54) rfl)) (hw _ (List.mem_of_getElem? (i := 56) rfl)) (hw _ (List.mem_of_getElem? (i := 55) rfl)) (hw _ (List.mem_of_getElem? (i := 28) rfl)) (hw _ (List.mem_of_getElem? (i := 57) rfl)) (by decide) (A101.ext E102) [] [] (k_isFlag_r l wd (h55.size) (h1.size) P102.old (F101_0.ext E102)) (le_ _ _ rfl) (W := 0) (le_ _ _ rfl) (by decide +kernel : parseMethodDescriptor "()Z" = some ⟨[], some .boolean⟩) rfl rfl rfl (le_ _ _ rfl) (le_ _ _ rfl) (le_ _ _ rfl) (pc' := 130) rfl (fun T103 h103 v103 P103 Q103 => ?_)
            replace P103 := P103.more (k' := 10) (n' := 30) (le_ _ _ rfl) (le_ _ _ rfl)
            obtain ⟨rfl, rfl⟩ := Q103
            refine blk C P103 [.aload 6] (by decide +kernel) (pc' := 132) (L' := [.val (.int x0), .val (.int x1), .val (.int x2), .val (.int x3), .val (.ref b1), .val (.int (x3 &&& (3 : Int32))), .val (.ref h1.size), .val (.null), .val (.int (1 : Int32)), .val (.int (1 : Int32)), .val (.ref h55.size), .val (.ref b102)]) (S' := [.ref h1.size, .int (0 : Int32)]) rfl ?_
            refine b_nonnullY C P103 (o := 7) (by decide +kernel) (pc' := 139) (by decide) ?_
            refine blk C P103 [.iconst 0] (by decide +kernel) (pc' := 140) (L' := [.val (.int x0), .val (.int x1), .val (.int x2), .val (.int x3), .val (.ref b1), .val (.int (x3 &&& (3 : Int32))), .val (.ref h1.size), .val (.null), .val (.int (1 : Int32)), .val (.int (1 : Int32)), .val (.ref h55.size), .val (.ref b102)]) (S' := [.int (0 : Int32), .int (0 : Int32)]) rfl ?_
            refine b_cmN C P103 (cd := .ne) (o := 15) (by decide +kernel) (pc' := 143) rfl (by decide : (0 : Int32) = (0 : Int32)) ?_
            refine blk C P103 [.aload 11] (by decide +kernel) (pc' := 145) (L' := [.val (.int x0), .val (.int x1), .val (.int x2), .val (.int x3), .val (.ref b1), .val (.int (x3 &&& (3 : Int32))), .val (.ref h1.size), .val (.null), .val (.int (1 : Int32)), .val (.int (1 : Int32)), .val (.ref h55.size), .val (.ref b102)]) (S' := [.ref b102]) rfl ?_
            refine c_virtual C P103 (idx := 31) (y := (⟨"com/example/user_data_sweeper/userdatasweeper/Option", "isFlag", "()Z"⟩ : MethodName)) (K0 := "com/example/user_data_sweeper/userdatasweeper/Option") (ybytes := prog_20_method_6_code) (ymax := 1) (yret := (some .boolean)) (yrm := ({ frames := 0, cells := 0, slots := 0, locals := 0 } : Room)) (by decide +kernel) (hw _ (List.mem_of_getElem? (i := 53) rfl)) (hw _ (List.mem_of_getElem? (i := 54) rfl)) (hw _ (List.mem_of_getElem? (i := 56) rfl)) (hw _ (List.mem_of_getElem? (i := 55) rfl)) (hw _ (List.mem_of_getElem? (i := 28) rfl)) (hw _ (List.mem_of_getElem? (i := 57) rfl)) (by decide) A102 [] [] (k_isFlag_n l wd b102 P103.old F102) (le_ _ _ rfl) (W := 0) (le_ _ _ rfl) (by decide +kernel : parseMethodDescriptor "()Z" = some ⟨[], some .boolean⟩) rfl rfl rfl (le_ _ _ rfl) (le_ _ _ rfl) (le_ _ _ rfl) (pc' := 148) rfl (fun T104 h104 v104 P104 Q104 => ?_)
            replace P104 := P104.more (k' := 10) (n' := 30) (le_ _ _ rfl) (le_ _ _ rfl)
            obtain ⟨rfl, rfl⟩ := Q104
            refine b_ifN C P104 (cd := .eq) (o := 7) (by decide +kernel) (pc' := 151) rfl (by decide : ¬ (1 : Int32) = 0) ?_
            refine blk C P104 [.iconst 1] (by decide +kernel) (pc' := 152) (L' := [.val (.int x0), .val (.int x1), .val (.int x2), .val (.int x3), .val (.ref b1), .val (.int (x3 &&& (3 : Int32))), .val (.ref h1.size), .val (.null), .val (.int (1 : Int32)), .val (.int (1 : Int32)), .val (.ref h55.size), .val (.ref b102)]) (S' := [.int (1 : Int32)]) rfl ?_
            refine b_goto C P104 (o := 4) (by decide +kernel) (pc' := 156) (by decide) ?_
            exact r_int C P104 (ty := .boolean) (by simp) rfl (by decide +kernel) (le_ _ _ rfl) (le_ _ _ rfl) ⟨_, rfl, rfl⟩
  · skip
    refine blk C P1 [.aconst_null, .astore 6] (by decide +kernel) (pc' := 19) (L' := [.val (.int x0), .val (.int x1), .val (.int x2), .val (.int x3), .val (.ref b1), .val (.int (x3 &&& (3 : Int32))), .val (.null), .unset, .unset, .unset, .unset, .unset]) (S' := []) rfl ?_
    refine b_goto C P1 (o := 30) (by decide +kernel) (pc' := 49) (by decide) ?_
    refine blk C P1 [.iload_n 3, .iconst 2, .iushr, .iconst 1, .iand] (by decide +kernel) (pc' := 54) (L' := [.val (.int x0), .val (.int x1), .val (.int x2), .val (.int x3), .val (.ref b1), .val (.int (x3 &&& (3 : Int32))), .val (.null), .unset, .unset, .unset, .unset, .unset]) (S' := [.int ((XT.ushr x3 (2 : Int32)) &&& (1 : Int32))]) rfl ?_
    refine b_if C P1 (cd := .eq) (o := 7) (by decide +kernel) (pc' := 61) (by decide) (pn := 57) rfl (fun (q105 : ((XT.ushr x3 (2 : Int32)) &&& (1 : Int32)) = 0) => ?_) (fun (q105 : ¬ ((XT.ushr x3 (2 : Int32)) &&& (1 : Int32)) = 0) => ?_)
    · skip
      refine blk C P1 [.iload_n 2] (by decide +kernel) (pc' := 62) (L' := [.val (.int x0), .val (.int x1), .val (.int x2), .val (.int x3), .val (.ref b1), .val (.int (x3 &&& (3 : Int32))), .val (.null), .unset, .unset, .unset, .unset, .unset]) (S' := [.int x2]) rfl ?_
      refine c_static C P1 (idx := 16) (y := (⟨"com/example/user_data_sweeper/userdatasweeper/OptionIsFlagPinLaw", "draw", "(I)Ljava/lang/String;"⟩ : MethodName)) (ybytes := method_2_code) (ymax := 4) (yret := (some (.object "java/lang/String"))) (yrm := ({ frames := 4, cells := 4, slots := 12, locals := 66 } : Room)) (by decide +kernel) (hw _ (List.mem_of_getElem? (i := 0) rfl)) (hw _ (List.mem_of_getElem? (i := 1) rfl)) (hw _ (List.mem_of_getElem? (i := 2) rfl)) (hw _ (List.mem_of_getElem? (i := 3) rfl)) (by decide) [.int x2] [] (k_draw l wd x2 P1.old ) (le_ _ _ rfl) (W := 0) (le_ _ _ rfl) (by decide +kernel : parseMethodDescriptor "(I)Ljava/lang/String;" = some ⟨[.int], some (.object "java/lang/String")⟩) rfl rfl rfl (le_ _ _ rfl) (le_ _ _ rfl) (le_ _ _ rfl) (pc' := 65) rfl (fun T106 h106 v106 P106 Q106 => ?_)
      replace P106 := P106.more (k' := 8) (n' := 24) (le_ _ _ rfl) (le_ _ _ rfl)
      obtain ⟨b106, rfl, E106, S106⟩ := Q106
      refine blk C P106 [.astore 7, .iload_n 3, .iconst 3, .iushr, .iconst 1, .iand] (by decide +kernel) (pc' := 72) (L' := [.val (.int x0), .val (.int x1), .val (.int x2), .val (.int x3), .val (.ref b1), .val (.int (x3 &&& (3 : Int32))), .val (.null), .val (.ref b106), .unset, .unset, .unset, .unset]) (S' := [.int ((XT.ushr x3 (3 : Int32)) &&& (1 : Int32))]) rfl ?_
      refine b_if C P106 (cd := .eq) (o := 7) (by decide +kernel) (pc' := 79) (by decide) (pn := 75) rfl (fun (q107 : ((XT.ushr x3 (3 : Int32)) &&& (1 : Int32)) = 0) => ?_) (fun (q107 : ¬ ((XT.ushr x3 (3 : Int32)) &&& (1 : Int32)) = 0) => ?_)
      · skip
        refine blk C P106 [.iconst 0, .istore 8, .iload_n 3, .iconst 4, .iushr, .iconst 1, .iand] (by decide +kernel) (pc' := 87) (L' := [.val (.int x0), .val (.int x1), .val (.int x2), .val (.int x3), .val (.ref b1), .val (.int (x3 &&& (3 : Int32))), .val (.null), .val (.ref b106), .val (.int (0 : Int32)), .unset, .unset, .unset]) (S' := [.int ((XT.ushr x3 (4 : Int32)) &&& (1 : Int32))]) rfl ?_
        refine b_if C P106 (cd := .eq) (o := 7) (by decide +kernel) (pc' := 94) (by decide) (pn := 90) rfl (fun (q108 : ((XT.ushr x3 (4 : Int32)) &&& (1 : Int32)) = 0) => ?_) (fun (q108 : ¬ ((XT.ushr x3 (4 : Int32)) &&& (1 : Int32)) = 0) => ?_)
        · skip
          refine blk C P106 [.iconst 0, .istore 9] (by decide +kernel) (pc' := 97) (L' := [.val (.int x0), .val (.int x1), .val (.int x2), .val (.int x3), .val (.ref b1), .val (.int (x3 &&& (3 : Int32))), .val (.null), .val (.ref b106), .val (.int (0 : Int32)), .val (.int (0 : Int32)), .unset, .unset]) (S' := []) rfl ?_
          refine s_new C P106 (idx := 22) (by decide +kernel) (hw _ (List.mem_of_getElem? (i := 26) rfl)) (hw _ (List.mem_of_getElem? (i := 27) rfl)) (hw _ (List.mem_of_getElem? (i := 28) rfl)) (le_ _ _ rfl) (le_ _ _ rfl) (pc' := 100) rfl (fun T109 h109 P109 E109 B109 => ?_)
          replace P109 := P109.more (k' := 9) (n' := 29) (le_ _ _ rfl) (le_ _ _ rfl)
          refine blk C P109 [.dup, .aload 4, .aload 6, .aload 7, .iload 8, .iload 9] (by decide +kernel) (pc' := 111) (L' := [.val (.int x0), .val (.int x1), .val (.int x2), .val (.int x3), .val (.ref b1), .val (.int (x3 &&& (3 : Int32))), .val (.null), .val (.ref b106), .val (.int (0 : Int32)), .val (.int (0 : Int32)), .unset, .unset]) (S' := [.int (0 : Int32), .int (0 : Int32), .ref b106, .null, .ref b1, .ref h106.size, .ref h106.size]) rfl ?_
          refine c_special C P109 (idx := 24) (y := (⟨"com/example/user_data_sweeper/userdatasweeper/Option", "<init>", "(Ljava/lang/String;Ljava/lang/String;Ljava/lang/String;ZZ)V"⟩ : MethodName)) (ybytes := prog_20_method_1_code) (ymax := 6) (yrm := ({ frames := 2, cells := 0, slots := 0, locals := 24 } : Room)) rfl (by decide +kernel) (hw _ (List.mem_of_getElem? (i := 29) rfl)) (hw _ (List.mem_of_getElem? (i := 30) rfl)) (hw _ (List.mem_of_getElem? (i := 28) rfl)) (hw _ (List.mem_of_getElem? (i := 31) rfl)) (by decide) [.ref b1, .null, .ref b106, .int (0 : Int32), .int (0 : Int32)] [.ref h106.size] (k_opt_nr l wd (h106.size) b1 b106 (0 : Int32) (0 : Int32) P109.old B109 ⟨rfl, rfl⟩ ⟨rfl, rfl⟩) (le_ _ _ rfl) (W := 1) (le_ _ _ rfl) (by decide +kernel : parseMethodDescriptor "(Ljava/lang/String;Ljava/lang/String;Ljava/lang/String;ZZ)V" = some ⟨[(.object "java/lang/String"), (.object "java/lang/String"), (.object "java/lang/String"), .boolean, .boolean], none⟩) rfl rfl rfl (le_ _ _ rfl) (le_ _ _ rfl) (le_ _ _ rfl) (pc' := 114) rfl (fun T110 h110 P110 Q110 => ?_)
          replace P110 := P110.more (k' := 9) (n' := 29) (le_ _ _ rfl) (le_ _ _ rfl)
          obtain ⟨K110, A110, F110_0⟩ := Q110
          refine blk C P110 [.astore 10, .aload 4, .aload 7] (by decide +kernel) (pc' := 120) (L' := [.val (.int x0), .val (.int x1), .val (.int x2), .val (.int x3), .val (.ref b1), .val (.int (x3 &&& (3 : Int32))), .val (.null), .val (.ref b106), .val (.int (0 : Int32)), .val (.int (0 : Int32)), .val (.ref h106.size), .unset]) (S' := [.ref b106, .ref b1]) rfl ?_
          refine c_static C P110 (idx := 27) (y := (⟨"com/example/user_data_sweeper/userdatasweeper/Option", "flag", "(Ljava/lang/String;Ljava/lang/String;)Lcom/example/user_data_sweeper/userdatasweeper/Option;"⟩ : MethodName)) (ybytes := prog_20_method_5_code) (ymax := 2) (yret := (some (.object "com/example/user_data_sweeper/userdatasweeper/Option"))) (yrm := ({ frames := 3, cells := 1, slots := 5, locals := 42 } : Room)) (by decide +kernel) (hw _ (List.mem_of_getElem? (i := 48) rfl)) (hw _ (List.mem_of_getElem? (i := 49) rfl)) (hw _ (List.mem_of_getElem? (i := 28) rfl)) (hw _ (List.mem_of_getElem? (i := 50) rfl)) (by decide) [.ref b1, .ref b106] [] (k_flag_r l wd b1 b106 P110.old ) (le_ _ _ rfl) (W := 0) (le_ _ _ rfl) (by decide +kernel : parseMethodDescriptor "(Ljava/lang/String;Ljava/lang/String;)Lcom/example/user_data_sweeper/userdatasweeper/Option;" = some ⟨[(.object "java/lang/String"), (.object "java/lang/String")], some (.object "com/example/user_data_sweeper/userdatasweeper/Option")⟩) rfl rfl rfl (le_ _ _ rfl) (le_ _ _ rfl) (le_ _ _ rfl) (pc' := 123) rfl (fun T111 h111 v111 P111 Q111 => ?_)
          replace P111 := P111.more (k' := 10) (n' := 34) (le_ _ _ rfl) (le_ _ _ rfl)
          obtain ⟨b111, rfl, E111, A111, F111⟩ := Q111
          refine blk C P111 [.astore 11, .aload 10] (by decide +kernel) (pc' := 127) (L' := [.val (.int x0), .val (.int x1), .val (.int x2), .val (.int x3), .val (.ref b1), .val (.int (x3 &&& (3 : Int32))), .val (.null), .val (.ref b106), .val (.int (0 : Int32)), .val (.int (0 : Int32)), .val (.ref h106.size), .val (.ref b111)]) (S' := [.ref h106.size]) rfl ?_
          refine c_virtual C P111 (idx := 31) (y := (⟨"com/example/user_data_sweeper/userdatasweeper/Option", "isFlag", "()Z"⟩ : MethodName)) (K0 := "com/example/user_data_sweeper/userdatasweeper/Option") (ybytes := prog_20_method_6_code) (ymax := 1) (yret := (some .boolean)) (yrm := ({ frames := 0, cells := 0, slots := 0, locals := 0 } : Room)) (by decide +kernel) (hw _ (List.mem_of_getElem? (i := 53) rfl)) (hw _ (List.mem_of_getElem? (i := 54) rfl)) (hw _ (List.mem_of_getElem? (i := 56) rfl)) (hw _ (List.mem_of_getElem? (i := 55) rfl)) (hw _ (List.mem_of_getElem? (i := 28) rfl)) (hw _ (List.mem_of_getElem? (i := 57) rfl)) (by decide) (A110.ext E111) [] [] (k_isFlag_n l wd (h106.size) P111.old (F110_0.ext E111)) (le_ _ _ rfl) (W := 0) (le_ _ _ rfl) (by decide +kernel : parseMethodDescriptor "()Z" = some ⟨[], some .boolean⟩) rfl rfl rfl (le_ _ _ rfl) (le_ _ _ rfl) (le_ _ _ rfl) (pc' := 130) rfl (fun T112 h112 v112 P112 Q112 => ?_)
          replace P112 := P112.more (k' := 10) (n' := 34) (le_ _ _ rfl) (le_ _ _ rfl)
          obtain ⟨rfl, rfl⟩ := Q112
          refine blk C P112 [.aload 6] (by decide +kernel) (pc' := 132) (L' := [.val (.int x0), .val (.int x1), .val (.int x2), .val (.int x3), .val (.ref b1), .val (.int (x3 &&& (3 : Int32))), .val (.null), .val (.ref b106), .val (.int (0 : Int32)), .val (.int (0 : Int32)), .val (.ref h106.size), .val (.ref b111)]) (S' := [.null, .int (1 : Int32)]) rfl ?_
          refine b_nonnullN C P112 (o := 7) (by decide +kernel) (pc' := 135) rfl ?_
          refine blk C P112 [.iconst 1] (by decide +kernel) (pc' := 136) (L' := [.val (.int x0), .val (.int x1), .val (.int x2), .val (.int x3), .val (.ref b1), .val (.int (x3 &&& (3 : Int32))), .val (.null), .val (.ref b106), .val (.int (0 : Int32)), .val (.int (0 : Int32)), .val (.ref h106.size), .val (.ref b111)]) (S' := [.int (1 : Int32), .int (1 : Int32)]) rfl ?_
          refine b_goto C P112 (o := 4) (by decide +kernel) (pc' := 140) (by decide) ?_
          refine b_cmN C P112 (cd := .ne) (o := 15) (by decide +kernel) (pc' := 143) rfl (by decide : (1 : Int32) = (1 : Int32)) ?_
          refine blk C P112 [.aload 11] (by decide +kernel) (pc' := 145) (L' := [.val (.int x0), .val (.int x1), .val (.int x2), .val (.int x3), .val (.ref b1), .val (.int (x3 &&& (3 : Int32))), .val (.null), .val (.ref b106), .val (.int (0 : Int32)), .val (.int (0 : Int32)), .val (.ref h106.size), .val (.ref b111)]) (S' := [.ref b111]) rfl ?_
          refine c_virtual C P112 (idx := 31) (y := (⟨"com/example/user_data_sweeper/userdatasweeper/Option", "isFlag", "()Z"⟩ : MethodName)) (K0 := "com/example/user_data_sweeper/userdatasweeper/Option") (ybytes := prog_20_method_6_code) (ymax := 1) (yret := (some .boolean)) (yrm := ({ frames := 0, cells := 0, slots := 0, locals := 0 } : Room)) (by decide +kernel) (hw _ (List.mem_of_getElem? (i := 53) rfl)) (hw _ (List.mem_of_getElem? (i := 54) rfl)) (hw _ (List.mem_of_getElem? (i := 56) rfl)) (hw _ (List.mem_of_getElem? (i := 55) rfl)) (hw _ (List.mem_of_getElem? (i := 28) rfl)) (hw _ (List.mem_of_getElem? (i := 57) rfl)) (by decide) A111 [] [] (k_isFlag_n l wd b111 P112.old F111) (le_ _ _ rfl) (W := 0) (le_ _ _ rfl) (by decide +kernel : parseMethodDescriptor "()Z" = some ⟨[], some .boolean⟩) rfl rfl rfl (le_ _ _ rfl) (le_ _ _ rfl) (le_ _ _ rfl) (pc' := 148) rfl (fun T113 h113 v113 P113 Q113 => ?_)
          replace P113 := P113.more (k' := 10) (n' := 34) (le_ _ _ rfl) (le_ _ _ rfl)
          obtain ⟨rfl, rfl⟩ := Q113
          refine b_ifN C P113 (cd := .eq) (o := 7) (by decide +kernel) (pc' := 151) rfl (by decide : ¬ (1 : Int32) = 0) ?_
          refine blk C P113 [.iconst 1] (by decide +kernel) (pc' := 152) (L' := [.val (.int x0), .val (.int x1), .val (.int x2), .val (.int x3), .val (.ref b1), .val (.int (x3 &&& (3 : Int32))), .val (.null), .val (.ref b106), .val (.int (0 : Int32)), .val (.int (0 : Int32)), .val (.ref h106.size), .val (.ref b111)]) (S' := [.int (1 : Int32)]) rfl ?_
          refine b_goto C P113 (o := 4) (by decide +kernel) (pc' := 156) (by decide) ?_
          exact r_int C P113 (ty := .boolean) (by simp) rfl (by decide +kernel) (le_ _ _ rfl) (le_ _ _ rfl) ⟨_, rfl, rfl⟩
        · skip
          refine blk C P106 [.iconst 1] (by decide +kernel) (pc' := 91) (L' := [.val (.int x0), .val (.int x1), .val (.int x2), .val (.int x3), .val (.ref b1), .val (.int (x3 &&& (3 : Int32))), .val (.null), .val (.ref b106), .val (.int (0 : Int32)), .unset, .unset, .unset]) (S' := [.int (1 : Int32)]) rfl ?_
          refine b_goto C P106 (o := 4) (by decide +kernel) (pc' := 95) (by decide) ?_
          refine blk C P106 [.istore 9] (by decide +kernel) (pc' := 97) (L' := [.val (.int x0), .val (.int x1), .val (.int x2), .val (.int x3), .val (.ref b1), .val (.int (x3 &&& (3 : Int32))), .val (.null), .val (.ref b106), .val (.int (0 : Int32)), .val (.int (1 : Int32)), .unset, .unset]) (S' := []) rfl ?_
          refine s_new C P106 (idx := 22) (by decide +kernel) (hw _ (List.mem_of_getElem? (i := 26) rfl)) (hw _ (List.mem_of_getElem? (i := 27) rfl)) (hw _ (List.mem_of_getElem? (i := 28) rfl)) (le_ _ _ rfl) (le_ _ _ rfl) (pc' := 100) rfl (fun T114 h114 P114 E114 B114 => ?_)
          replace P114 := P114.more (k' := 9) (n' := 29) (le_ _ _ rfl) (le_ _ _ rfl)
          refine blk C P114 [.dup, .aload 4, .aload 6, .aload 7, .iload 8, .iload 9] (by decide +kernel) (pc' := 111) (L' := [.val (.int x0), .val (.int x1), .val (.int x2), .val (.int x3), .val (.ref b1), .val (.int (x3 &&& (3 : Int32))), .val (.null), .val (.ref b106), .val (.int (0 : Int32)), .val (.int (1 : Int32)), .unset, .unset]) (S' := [.int (1 : Int32), .int (0 : Int32), .ref b106, .null, .ref b1, .ref h106.size, .ref h106.size]) rfl ?_
          refine c_special C P114 (idx := 24) (y := (⟨"com/example/user_data_sweeper/userdatasweeper/Option", "<init>", "(Ljava/lang/String;Ljava/lang/String;Ljava/lang/String;ZZ)V"⟩ : MethodName)) (ybytes := prog_20_method_1_code) (ymax := 6) (yrm := ({ frames := 2, cells := 0, slots := 0, locals := 24 } : Room)) rfl (by decide +kernel) (hw _ (List.mem_of_getElem? (i := 29) rfl)) (hw _ (List.mem_of_getElem? (i := 30) rfl)) (hw _ (List.mem_of_getElem? (i := 28) rfl)) (hw _ (List.mem_of_getElem? (i := 31) rfl)) (by decide) [.ref b1, .null, .ref b106, .int (0 : Int32), .int (1 : Int32)] [.ref h106.size] (k_opt_nr l wd (h106.size) b1 b106 (0 : Int32) (1 : Int32) P114.old B114 ⟨rfl, rfl⟩ ⟨rfl, rfl⟩) (le_ _ _ rfl) (W := 1) (le_ _ _ rfl) (by decide +kernel : parseMethodDescriptor "(Ljava/lang/String;Ljava/lang/String;Ljava/lang/String;ZZ)V" = some ⟨[(.object "java/lang/String"), (.object "java/lang/String"), (.object "java/lang/String"), .boolean, .boolean], none⟩) rfl rfl rfl (le_ _ _ rfl) (le_ _ _ rfl) (le_ _ _ rfl) (pc' := 114) rfl (fun T115 h115 P115 Q115 => ?_)
          replace P115 := P115.more (k' := 9) (n' := 29) (le_ _ _ rfl) (le_ _ _ rfl)
          obtain ⟨K115, A115, F115_0⟩ := Q115
          refine blk C P115 [.astore 10, .aload 4, .aload 7] (by decide +kernel) (pc' := 120) (L' := [.val (.int x0), .val (.int x1), .val (.int x2), .val (.int x3), .val (.ref b1), .val (.int (x3 &&& (3 : Int32))), .val (.null), .val (.ref b106), .val (.int (0 : Int32)), .val (.int (1 : Int32)), .val (.ref h106.size), .unset]) (S' := [.ref b106, .ref b1]) rfl ?_
          refine c_static C P115 (idx := 27) (y := (⟨"com/example/user_data_sweeper/userdatasweeper/Option", "flag", "(Ljava/lang/String;Ljava/lang/String;)Lcom/example/user_data_sweeper/userdatasweeper/Option;"⟩ : MethodName)) (ybytes := prog_20_method_5_code) (ymax := 2) (yret := (some (.object "com/example/user_data_sweeper/userdatasweeper/Option"))) (yrm := ({ frames := 3, cells := 1, slots := 5, locals := 42 } : Room)) (by decide +kernel) (hw _ (List.mem_of_getElem? (i := 48) rfl)) (hw _ (List.mem_of_getElem? (i := 49) rfl)) (hw _ (List.mem_of_getElem? (i := 28) rfl)) (hw _ (List.mem_of_getElem? (i := 50) rfl)) (by decide) [.ref b1, .ref b106] [] (k_flag_r l wd b1 b106 P115.old ) (le_ _ _ rfl) (W := 0) (le_ _ _ rfl) (by decide +kernel : parseMethodDescriptor "(Ljava/lang/String;Ljava/lang/String;)Lcom/example/user_data_sweeper/userdatasweeper/Option;" = some ⟨[(.object "java/lang/String"), (.object "java/lang/String")], some (.object "com/example/user_data_sweeper/userdatasweeper/Option")⟩) rfl rfl rfl (le_ _ _ rfl) (le_ _ _ rfl) (le_ _ _ rfl) (pc' := 123) rfl (fun T116 h116 v116 P116 Q116 => ?_)
          replace P116 := P116.more (k' := 10) (n' := 34) (le_ _ _ rfl) (le_ _ _ rfl)
          obtain ⟨b116, rfl, E116, A116, F116⟩ := Q116
          refine blk C P116 [.astore 11, .aload 10] (by decide +kernel) (pc' := 127) (L' := [.val (.int x0), .val (.int x1), .val (.int x2), .val (.int x3), .val (.ref b1), .val (.int (x3 &&& (3 : Int32))), .val (.null), .val (.ref b106), .val (.int (0 : Int32)), .val (.int (1 : Int32)), .val (.ref h106.size), .val (.ref b116)]) (S' := [.ref h106.size]) rfl ?_
          refine c_virtual C P116 (idx := 31) (y := (⟨"com/example/user_data_sweeper/userdatasweeper/Option", "isFlag", "()Z"⟩ : MethodName)) (K0 := "com/example/user_data_sweeper/userdatasweeper/Option") (ybytes := prog_20_method_6_code) (ymax := 1) (yret := (some .boolean)) (yrm := ({ frames := 0, cells := 0, slots := 0, locals := 0 } : Room)) (by decide +kernel) (hw _ (List.mem_of_getElem? (i := 53) rfl)) (hw _ (List.mem_of_getElem? (i := 54) rfl)) (hw _ (List.mem_of_getElem? (i := 56) rfl)) (hw _ (List.mem_of_getElem? (i := 55) rfl)) (hw _ (List.mem_of_getElem? (i := 28) rfl)) (hw _ (List.mem_of_getElem? (i := 57) rfl)) (by decide) (A115.ext E116) [] [] (k_isFlag_n l wd (h106.size) P116.old (F115_0.ext E116)) (le_ _ _ rfl) (W := 0) (le_ _ _ rfl) (by decide +kernel : parseMethodDescriptor "()Z" = some ⟨[], some .boolean⟩) rfl rfl rfl (le_ _ _ rfl) (le_ _ _ rfl) (le_ _ _ rfl) (pc' := 130) rfl (fun T117 h117 v117 P117 Q117 => ?_)
          replace P117 := P117.more (k' := 10) (n' := 34) (le_ _ _ rfl) (le_ _ _ rfl)
          obtain ⟨rfl, rfl⟩ := Q117
          refine blk C P117 [.aload 6] (by decide +kernel) (pc' := 132) (L' := [.val (.int x0), .val (.int x1), .val (.int x2), .val (.int x3), .val (.ref b1), .val (.int (x3 &&& (3 : Int32))), .val (.null), .val (.ref b106), .val (.int (0 : Int32)), .val (.int (1 : Int32)), .val (.ref h106.size), .val (.ref b116)]) (S' := [.null, .int (1 : Int32)]) rfl ?_
          refine b_nonnullN C P117 (o := 7) (by decide +kernel) (pc' := 135) rfl ?_
          refine blk C P117 [.iconst 1] (by decide +kernel) (pc' := 136) (L' := [.val (.int x0), .val (.int x1), .val (.int x2), .val (.int x3), .val (.ref b1), .val (.int (x3 &&& (3 : Int32))), .val (.null), .val (.ref b106), .val (.int (0 : Int32)), .val (.int (1 : Int32)), .val (.ref h106.size), .val (.ref b116)]) (S' := [.int (1 : Int32), .int (1 : Int32)]) rfl ?_
          refine b_goto C P117 (o := 4) (by decide +kernel) (pc' := 140) (by decide) ?_
          refine b_cmN C P117 (cd := .ne) (o := 15) (by decide +kernel) (pc' := 143) rfl (by decide : (1 : Int32) = (1 : Int32)) ?_
          refine blk C P117 [.aload 11] (by decide +kernel) (pc' := 145) (L' := [.val (.int x0), .val (.int x1), .val (.int x2), .val (.int x3), .val (.ref b1), .val (.int (x3 &&& (3 : Int32))), .val (.null), .val (.ref b106), .val (.int (0 : Int32)), .val (.int (1 : Int32)), .val (.ref h106.size), .val (.ref b116)]) (S' := [.ref b116]) rfl ?_
          refine c_virtual C P117 (idx := 31) (y := (⟨"com/example/user_data_sweeper/userdatasweeper/Option", "isFlag", "()Z"⟩ : MethodName)) (K0 := "com/example/user_data_sweeper/userdatasweeper/Option") (ybytes := prog_20_method_6_code) (ymax := 1) (yret := (some .boolean)) (yrm := ({ frames := 0, cells := 0, slots := 0, locals := 0 } : Room)) (by decide +kernel) (hw _ (List.mem_of_getElem? (i := 53) rfl)) (hw _ (List.mem_of_getElem? (i := 54) rfl)) (hw _ (List.mem_of_getElem? (i := 56) rfl)) (hw _ (List.mem_of_getElem? (i := 55) rfl)) (hw _ (List.mem_of_getElem? (i := 28) rfl)) (hw _ (List.mem_of_getElem? (i := 57) rfl)) (by decide) A116 [] [] (k_isFlag_n l wd b116 P117.old F116) (le_ _ _ rfl) (W := 0) (le_ _ _ rfl) (by decide +kernel : parseMethodDescriptor "()Z" = some ⟨[], some .boolean⟩) rfl rfl rfl (le_ _ _ rfl) (le_ _ _ rfl) (le_ _ _ rfl) (pc' := 148) rfl (fun T118 h118 v118 P118 Q118 => ?_)
          replace P118 := P118.more (k' := 10) (n' := 34) (le_ _ _ rfl) (le_ _ _ rfl)
          obtain ⟨rfl, rfl⟩ := Q118
          refine b_ifN C P118 (cd := .eq) (o := 7) (by decide +kernel) (pc' := 151) rfl (by decide : ¬ (1 : Int32) = 0) ?_
          refine blk C P118 [.iconst 1] (by decide +kernel) (pc' := 152) (L' := [.val (.int x0), .val (.int x1), .val (.int x2), .val (.int x3), .val (.ref b1), .val (.int (x3 &&& (3 : Int32))), .val (.null), .val (.ref b106), .val (.int (0 : Int32)), .val (.int (1 : Int32)), .val (.ref h106.size), .val (.ref b116)]) (S' := [.int (1 : Int32)]) rfl ?_
          refine b_goto C P118 (o := 4) (by decide +kernel) (pc' := 156) (by decide) ?_
          exact r_int C P118 (ty := .boolean) (by simp) rfl (by decide +kernel) (le_ _ _ rfl) (le_ _ _ rfl) ⟨_, rfl, rfl⟩
      · skip
        refine blk C P106 [.iconst 1] (by decide +kernel) (pc' := 76) (L' := [.val (.int x0), .val (.int x1), .val (.int x2), .val (.int x3), .val (.ref b1), .val (.int (x3 &&& (3 : Int32))), .val (.null), .val (.ref b106), .unset, .unset, .unset, .unset]) (S' := [.int (1 : Int32)]) rfl ?_
        refine b_goto C P106 (o := 4) (by decide +kernel) (pc' := 80) (by decide) ?_
        refine blk C P106 [.istore 8, .iload_n 3, .iconst 4, .iushr, .iconst 1, .iand] (by decide +kernel) (pc' := 87) (L' := [.val (.int x0), .val (.int x1), .val (.int x2), .val (.int x3), .val (.ref b1), .val (.int (x3 &&& (3 : Int32))), .val (.null), .val (.ref b106), .val (.int (1 : Int32)), .unset, .unset, .unset]) (S' := [.int ((XT.ushr x3 (4 : Int32)) &&& (1 : Int32))]) rfl ?_
        refine b_if C P106 (cd := .eq) (o := 7) (by decide +kernel) (pc' := 94) (by decide) (pn := 90) rfl (fun (q119 : ((XT.ushr x3 (4 : Int32)) &&& (1 : Int32)) = 0) => ?_) (fun (q119 : ¬ ((XT.ushr x3 (4 : Int32)) &&& (1 : Int32)) = 0) => ?_)
        · skip
          refine blk C P106 [.iconst 0, .istore 9] (by decide +kernel) (pc' := 97) (L' := [.val (.int x0), .val (.int x1), .val (.int x2), .val (.int x3), .val (.ref b1), .val (.int (x3 &&& (3 : Int32))), .val (.null), .val (.ref b106), .val (.int (1 : Int32)), .val (.int (0 : Int32)), .unset, .unset]) (S' := []) rfl ?_
          refine s_new C P106 (idx := 22) (by decide +kernel) (hw _ (List.mem_of_getElem? (i := 26) rfl)) (hw _ (List.mem_of_getElem? (i := 27) rfl)) (hw _ (List.mem_of_getElem? (i := 28) rfl)) (le_ _ _ rfl) (le_ _ _ rfl) (pc' := 100) rfl (fun T120 h120 P120 E120 B120 => ?_)
          replace P120 := P120.more (k' := 9) (n' := 29) (le_ _ _ rfl) (le_ _ _ rfl)
          refine blk C P120 [.dup, .aload 4, .aload 6, .aload 7, .iload 8, .iload 9] (by decide +kernel) (pc' := 111) (L' := [.val (.int x0), .val (.int x1), .val (.int x2), .val (.int x3), .val (.ref b1), .val (.int (x3 &&& (3 : Int32))), .val (.null), .val (.ref b106), .val (.int (1 : Int32)), .val (.int (0 : Int32)), .unset, .unset]) (S' := [.int (0 : Int32), .int (1 : Int32), .ref b106, .null, .ref b1, .ref h106.size, .ref h106.size]) rfl ?_
          refine c_special C P120 (idx := 24) (y := (⟨"com/example/user_data_sweeper/userdatasweeper/Option", "<init>", "(Ljava/lang/String;Ljava/lang/String;Ljava/lang/String;ZZ)V"⟩ : MethodName)) (ybytes := prog_20_method_1_code) (ymax := 6) (yrm := ({ frames := 2, cells := 0, slots := 0, locals := 24 } : Room)) rfl (by decide +kernel) (hw _ (List.mem_of_getElem? (i := 29) rfl)) (hw _ (List.mem_of_getElem? (i := 30) rfl)) (hw _ (List.mem_of_getElem? (i := 28) rfl)) (hw _ (List.mem_of_getElem? (i := 31) rfl)) (by decide) [.ref b1, .null, .ref b106, .int (1 : Int32), .int (0 : Int32)] [.ref h106.size] (k_opt_nr l wd (h106.size) b1 b106 (1 : Int32) (0 : Int32) P120.old B120 ⟨rfl, rfl⟩ ⟨rfl, rfl⟩) (le_ _ _ rfl) (W := 1) (le_ _ _ rfl) (by decide +kernel : parseMethodDescriptor "(Ljava/lang/String;Ljava/lang/String;Ljava/lang/String;ZZ)V" = some ⟨[(.object "java/lang/String"), (.object "java/lang/String"), (.object "java/lang/String"), .boolean, .boolean], none⟩) rfl rfl rfl (le_ _ _ rfl) (le_ _ _ rfl) (le_ _ _ rfl) (pc' := 114) rfl (fun T121 h121 P121 Q121 => ?_)
          replace P121 := P121.more (k' := 9) (n' := 29) (le_ _ _ rfl) (le_ _ _ rfl)
          obtain ⟨K121, A121, F121_0⟩ := Q121
          refine blk C P121 [.astore 10, .aload 4, .aload 7] (by decide +kernel) (pc' := 120) (L' := [.val (.int x0), .val (.int x1), .val (.int x2), .val (.int x3), .val (.ref b1), .val (.int (x3 &&& (3 : Int32))), .val (.null), .val (.ref b106), .val (.int (1 : Int32)), .val (.int (0 : Int32)), .val (.ref h106.size), .unset]) (S' := [.ref b106, .ref b1]) rfl ?_
          refine c_static C P121 (idx := 27) (y := (⟨"com/example/user_data_sweeper/userdatasweeper/Option", "flag", "(Ljava/lang/String;Ljava/lang/String;)Lcom/example/user_data_sweeper/userdatasweeper/Option;"⟩ : MethodName)) (ybytes := prog_20_method_5_code) (ymax := 2) (yret := (some (.object "com/example/user_data_sweeper/userdatasweeper/Option"))) (yrm := ({ frames := 3, cells := 1, slots := 5, locals := 42 } : Room)) (by decide +kernel) (hw _ (List.mem_of_getElem? (i := 48) rfl)) (hw _ (List.mem_of_getElem? (i := 49) rfl)) (hw _ (List.mem_of_getElem? (i := 28) rfl)) (hw _ (List.mem_of_getElem? (i := 50) rfl)) (by decide) [.ref b1, .ref b106] [] (k_flag_r l wd b1 b106 P121.old ) (le_ _ _ rfl) (W := 0) (le_ _ _ rfl) (by decide +kernel : parseMethodDescriptor "(Ljava/lang/String;Ljava/lang/String;)Lcom/example/user_data_sweeper/userdatasweeper/Option;" = some ⟨[(.object "java/lang/String"), (.object "java/lang/String")], some (.object "com/example/user_data_sweeper/userdatasweeper/Option")⟩) rfl rfl rfl (le_ _ _ rfl) (le_ _ _ rfl) (le_ _ _ rfl) (pc' := 123) rfl (fun T122 h122 v122 P122 Q122 => ?_)
          replace P122 := P122.more (k' := 10) (n' := 34) (le_ _ _ rfl) (le_ _ _ rfl)
          obtain ⟨b122, rfl, E122, A122, F122⟩ := Q122
          refine blk C P122 [.astore 11, .aload 10] (by decide +kernel) (pc' := 127) (L' := [.val (.int x0), .val (.int x1), .val (.int x2), .val (.int x3), .val (.ref b1), .val (.int (x3 &&& (3 : Int32))), .val (.null), .val (.ref b106), .val (.int (1 : Int32)), .val (.int (0 : Int32)), .val (.ref h106.size), .val (.ref b122)]) (S' := [.ref h106.size]) rfl ?_
          refine c_virtual C P122 (idx := 31) (y := (⟨"com/example/user_data_sweeper/userdatasweeper/Option", "isFlag", "()Z"⟩ : MethodName)) (K0 := "com/example/user_data_sweeper/userdatasweeper/Option") (ybytes := prog_20_method_6_code) (ymax := 1) (yret := (some .boolean)) (yrm := ({ frames := 0, cells := 0, slots := 0, locals := 0 } : Room)) (by decide +kernel) (hw _ (List.mem_of_getElem? (i := 53) rfl)) (hw _ (List.mem_of_getElem? (i := 54) rfl)) (hw _ (List.mem_of_getElem? (i := 56) rfl)) (hw _ (List.mem_of_getElem? (i := 55) rfl)) (hw _ (List.mem_of_getElem? (i := 28) rfl)) (hw _ (List.mem_of_getElem? (i := 57) rfl)) (by decide) (A121.ext E122) [] [] (k_isFlag_n l wd (h106.size) P122.old (F121_0.ext E122)) (le_ _ _ rfl) (W := 0) (le_ _ _ rfl) (by decide +kernel : parseMethodDescriptor "()Z" = some ⟨[], some .boolean⟩) rfl rfl rfl (le_ _ _ rfl) (le_ _ _ rfl) (le_ _ _ rfl) (pc' := 130) rfl (fun T123 h123 v123 P123 Q123 => ?_)
          replace P123 := P123.more (k' := 10) (n' := 34) (le_ _ _ rfl) (le_ _ _ rfl)
          obtain ⟨rfl, rfl⟩ := Q123
          refine blk C P123 [.aload 6] (by decide +kernel) (pc' := 132) (L' := [.val (.int x0), .val (.int x1), .val (.int x2), .val (.int x3), .val (.ref b1), .val (.int (x3 &&& (3 : Int32))), .val (.null), .val (.ref b106), .val (.int (1 : Int32)), .val (.int (0 : Int32)), .val (.ref h106.size), .val (.ref b122)]) (S' := [.null, .int (1 : Int32)]) rfl ?_
          refine b_nonnullN C P123 (o := 7) (by decide +kernel) (pc' := 135) rfl ?_
          refine blk C P123 [.iconst 1] (by decide +kernel) (pc' := 136) (L' := [.val (.int x0), .val (.int x1), .val (.int x2), .val (.int x3), .val (.ref b1), .val (.int (x3 &&& (3 : Int32))), .val (.null), .val (.ref b106), .val (.int (1 : Int32)), .val (.int (0 : Int32)), .val (.ref h106.size), .val (.ref b122)]) (S' := [.int (1 : Int32), .int (1 : Int32)]) rfl ?_
          refine b_goto C P123 (o := 4) (by decide +kernel) (pc' := 140) (by decide) ?_
          refine b_cmN C P123 (cd := .ne) (o := 15) (by decide +kernel) (pc' := 143) rfl (by decide : (1 : Int32) = (1 : Int32)) ?_
          refine blk C P123 [.aload 11] (by decide +kernel) (pc' := 145) (L' := [.val (.int x0), .val (.int x1), .val (.int x2), .val (.int x3), .val (.ref b1), .val (.int (x3 &&& (3 : Int32))), .val (.null), .val (.ref b106), .val (.int (1 : Int32)), .val (.int (0 : Int32)), .val (.ref h106.size), .val (.ref b122)]) (S' := [.ref b122]) rfl ?_
          refine c_virtual C P123 (idx := 31) (y := (⟨"com/example/user_data_sweeper/userdatasweeper/Option", "isFlag", "()Z"⟩ : MethodName)) (K0 := "com/example/user_data_sweeper/userdatasweeper/Option") (ybytes := prog_20_method_6_code) (ymax := 1) (yret := (some .boolean)) (yrm := ({ frames := 0, cells := 0, slots := 0, locals := 0 } : Room)) (by decide +kernel) (hw _ (List.mem_of_getElem? (i := 53) rfl)) (hw _ (List.mem_of_getElem? (i := 54) rfl)) (hw _ (List.mem_of_getElem? (i := 56) rfl)) (hw _ (List.mem_of_getElem? (i := 55) rfl)) (hw _ (List.mem_of_getElem? (i := 28) rfl)) (hw _ (List.mem_of_getElem? (i := 57) rfl)) (by decide) A122 [] [] (k_isFlag_n l wd b122 P123.old F122) (le_ _ _ rfl) (W := 0) (le_ _ _ rfl) (by decide +kernel : parseMethodDescriptor "()Z" = some ⟨[], some .boolean⟩) rfl rfl rfl (le_ _ _ rfl) (le_ _ _ rfl) (le_ _ _ rfl) (pc' := 148) rfl (fun T124 h124 v124 P124 Q124 => ?_)
          replace P124 := P124.more (k' := 10) (n' := 34) (le_ _ _ rfl) (le_ _ _ rfl)
          obtain ⟨rfl, rfl⟩ := Q124
          refine b_ifN C P124 (cd := .eq) (o := 7) (by decide +kernel) (pc' := 151) rfl (by decide : ¬ (1 : Int32) = 0) ?_
          refine blk C P124 [.iconst 1] (by decide +kernel) (pc' := 152) (L' := [.val (.int x0), .val (.int x1), .val (.int x2), .val (.int x3), .val (.ref b1), .val (.int (x3 &&& (3 : Int32))), .val (.null), .val (.ref b106), .val (.int (1 : Int32)), .val (.int (0 : Int32)), .val (.ref h106.size), .val (.ref b122)]) (S' := [.int (1 : Int32)]) rfl ?_
          refine b_goto C P124 (o := 4) (by decide +kernel) (pc' := 156) (by decide) ?_
          exact r_int C P124 (ty := .boolean) (by simp) rfl (by decide +kernel) (le_ _ _ rfl) (le_ _ _ rfl) ⟨_, rfl, rfl⟩
        · skip
          refine blk C P106 [.iconst 1] (by decide +kernel) (pc' := 91) (L' := [.val (.int x0), .val (.int x1), .val (.int x2), .val (.int x3), .val (.ref b1), .val (.int (x3 &&& (3 : Int32))), .val (.null), .val (.ref b106), .val (.int (1 : Int32)), .unset, .unset, .unset]) (S' := [.int (1 : Int32)]) rfl ?_
          refine b_goto C P106 (o := 4) (by decide +kernel) (pc' := 95) (by decide) ?_
          refine blk C P106 [.istore 9] (by decide +kernel) (pc' := 97) (L' := [.val (.int x0), .val (.int x1), .val (.int x2), .val (.int x3), .val (.ref b1), .val (.int (x3 &&& (3 : Int32))), .val (.null), .val (.ref b106), .val (.int (1 : Int32)), .val (.int (1 : Int32)), .unset, .unset]) (S' := []) rfl ?_
          refine s_new C P106 (idx := 22) (by decide +kernel) (hw _ (List.mem_of_getElem? (i := 26) rfl)) (hw _ (List.mem_of_getElem? (i := 27) rfl)) (hw _ (List.mem_of_getElem? (i := 28) rfl)) (le_ _ _ rfl) (le_ _ _ rfl) (pc' := 100) rfl (fun T125 h125 P125 E125 B125 => ?_)
          replace P125 := P125.more (k' := 9) (n' := 29) (le_ _ _ rfl) (le_ _ _ rfl)
          refine blk C P125 [.dup, .aload 4, .aload 6, .aload 7, .iload 8, .iload 9] (by decide +kernel) (pc' := 111) (L' := [.val (.int x0), .val (.int x1), .val (.int x2), .val (.int x3), .val (.ref b1), .val (.int (x3 &&& (3 : Int32))), .val (.null), .val (.ref b106), .val (.int (1 : Int32)), .val (.int (1 : Int32)), .unset, .unset]) (S' := [.int (1 : Int32), .int (1 : Int32), .ref b106, .null, .ref b1, .ref h106.size, .ref h106.size]) rfl ?_
          refine c_special C P125 (idx := 24) (y := (⟨"com/example/user_data_sweeper/userdatasweeper/Option", "<init>", "(Ljava/lang/String;Ljava/lang/String;Ljava/lang/String;ZZ)V"⟩ : MethodName)) (ybytes := prog_20_method_1_code) (ymax := 6) (yrm := ({ frames := 2, cells := 0, slots := 0, locals := 24 } : Room)) rfl (by decide +kernel) (hw _ (List.mem_of_getElem? (i := 29) rfl)) (hw _ (List.mem_of_getElem? (i := 30) rfl)) (hw _ (List.mem_of_getElem? (i := 28) rfl)) (hw _ (List.mem_of_getElem? (i := 31) rfl)) (by decide) [.ref b1, .null, .ref b106, .int (1 : Int32), .int (1 : Int32)] [.ref h106.size] (k_opt_nr l wd (h106.size) b1 b106 (1 : Int32) (1 : Int32) P125.old B125 ⟨rfl, rfl⟩ ⟨rfl, rfl⟩) (le_ _ _ rfl) (W := 1) (le_ _ _ rfl) (by decide +kernel : parseMethodDescriptor "(Ljava/lang/String;Ljava/lang/String;Ljava/lang/String;ZZ)V" = some ⟨[(.object "java/lang/String"), (.object "java/lang/String"), (.object "java/lang/String"), .boolean, .boolean], none⟩) rfl rfl rfl (le_ _ _ rfl) (le_ _ _ rfl) (le_ _ _ rfl) (pc' := 114) rfl (fun T126 h126 P126 Q126 => ?_)
          replace P126 := P126.more (k' := 9) (n' := 29) (le_ _ _ rfl) (le_ _ _ rfl)
          obtain ⟨K126, A126, F126_0⟩ := Q126
          refine blk C P126 [.astore 10, .aload 4, .aload 7] (by decide +kernel) (pc' := 120) (L' := [.val (.int x0), .val (.int x1), .val (.int x2), .val (.int x3), .val (.ref b1), .val (.int (x3 &&& (3 : Int32))), .val (.null), .val (.ref b106), .val (.int (1 : Int32)), .val (.int (1 : Int32)), .val (.ref h106.size), .unset]) (S' := [.ref b106, .ref b1]) rfl ?_
          refine c_static C P126 (idx := 27) (y := (⟨"com/example/user_data_sweeper/userdatasweeper/Option", "flag", "(Ljava/lang/String;Ljava/lang/String;)Lcom/example/user_data_sweeper/userdatasweeper/Option;"⟩ : MethodName)) (ybytes := prog_20_method_5_code) (ymax := 2) (yret := (some (.object "com/example/user_data_sweeper/userdatasweeper/Option"))) (yrm := ({ frames := 3, cells := 1, slots := 5, locals := 42 } : Room)) (by decide +kernel) (hw _ (List.mem_of_getElem? (i := 48) rfl)) (hw _ (List.mem_of_getElem? (i := 49) rfl)) (hw _ (List.mem_of_getElem? (i := 28) rfl)) (hw _ (List.mem_of_getElem? (i := 50) rfl)) (by decide) [.ref b1, .ref b106] [] (k_flag_r l wd b1 b106 P126.old ) (le_ _ _ rfl) (W := 0) (le_ _ _ rfl) (by decide +kernel : parseMethodDescriptor "(Ljava/lang/String;Ljava/lang/String;)Lcom/example/user_data_sweeper/userdatasweeper/Option;" = some ⟨[(.object "java/lang/String"), (.object "java/lang/String")], some (.object "com/example/user_data_sweeper/userdatasweeper/Option")⟩) rfl rfl rfl (le_ _ _ rfl) (le_ _ _ rfl) (le_ _ _ rfl) (pc' := 123) rfl (fun T127 h127 v127 P127 Q127 => ?_)
          replace P127 := P127.more (k' := 10) (n' := 34) (le_ _ _ rfl) (le_ _ _ rfl)
          obtain ⟨b127, rfl, E127, A127, F127⟩ := Q127
          refine blk C P127 [.astore 11, .aload 10] (by decide +kernel) (pc' := 127) (L' := [.val (.int x0), .val (.int x1), .val (.int x2), .val (.int x3), .val (.ref b1), .val (.int (x3 &&& (3 : Int32))), .val (.null), .val (.ref b106), .val (.int (1 : Int32)), .val (.int (1 : Int32)), .val (.ref h106.size), .val (.ref b127)]) (S' := [.ref h106.size]) rfl ?_
          refine c_virtual C P127 (idx := 31) (y := (⟨"com/example/user_data_sweeper/userdatasweeper/Option", "isFlag", "()Z"⟩ : MethodName)) (K0 := "com/example/user_data_sweeper/userdatasweeper/Option") (ybytes := prog_20_method_6_code) (ymax := 1) (yret := (some .boolean)) (yrm := ({ frames := 0, cells := 0, slots := 0, locals := 0 } : Room)) (by decide +kernel) (hw _ (List.mem_of_getElem? (i := 53) rfl)) (hw _ (List.mem_of_getElem? (i := 54) rfl)) (hw _ (List.mem_of_getElem? (i := 56) rfl)) (hw _ (List.mem_of_getElem? (i := 55) rfl)) (hw _ (List.mem_of_getElem? (i := 28) rfl)) (hw _ (List.mem_of_getElem? (i := 57) rfl)) (by decide) (A126.ext E127) [] [] (k_isFlag_n l wd (h106.size) P127.old (F126_0.ext E127)) (le_ _ _ rfl) (W := 0) (le_ _ _ rfl) (by decide +kernel : parseMethodDescriptor "()Z" = some ⟨[], some .boolean⟩) rfl rfl rfl (le_ _ _ rfl) (le_ _ _ rfl) (le_ _ _ rfl) (pc' := 130) rfl (fun T128 h128 v128 P128 Q128 => ?_)
          replace P128 := P128.more (k' := 10) (n' := 34) (le_ _ _ rfl) (le_ _ _ rfl)
          obtain ⟨rfl, rfl⟩ := Q128
          refine blk C P128 [.aload 6] (by decide +kernel) (pc' := 132) (L' := [.val (.int x0), .val (.int x1), .val (.int x2), .val (.int x3), .val (.ref b1), .val (.int (x3 &&& (3 : Int32))), .val (.null), .val (.ref b106), .val (.int (1 : Int32)), .val (.int (1 : Int32)), .val (.ref h106.size), .val (.ref b127)]) (S' := [.null, .int (1 : Int32)]) rfl ?_
          refine b_nonnullN C P128 (o := 7) (by decide +kernel) (pc' := 135) rfl ?_
          refine blk C P128 [.iconst 1] (by decide +kernel) (pc' := 136) (L' := [.val (.int x0), .val (.int x1), .val (.int x2), .val (.int x3), .val (.ref b1), .val (.int (x3 &&& (3 : Int32))), .val (.null), .val (.ref b106), .val (.int (1 : Int32)), .val (.int (1 : Int32)), .val (.ref h106.size), .val (.ref b127)]) (S' := [.int (1 : Int32), .int (1 : Int32)]) rfl ?_
          refine b_goto C P128 (o := 4) (by decide +kernel) (pc' := 140) (by decide) ?_
          refine b_cmN C P128 (cd := .ne) (o := 15) (by decide +kernel) (pc' := 143) rfl (by decide : (1 : Int32) = (1 : Int32)) ?_
          refine blk C P128 [.aload 11] (by decide +kernel) (pc' := 145) (L' := [.val (.int x0), .val (.int x1), .val (.int x2), .val (.int x3), .val (.ref b1), .val (.int (x3 &&& (3 : Int32))), .val (.null), .val (.ref b106), .val (.int (1 : Int32)), .val (.int (1 : Int32)), .val (.ref h106.size), .val (.ref b127)]) (S' := [.ref b127]) rfl ?_
          refine c_virtual C P128 (idx := 31) (y := (⟨"com/example/user_data_sweeper/userdatasweeper/Option", "isFlag", "()Z"⟩ : MethodName)) (K0 := "com/example/user_data_sweeper/userdatasweeper/Option") (ybytes := prog_20_method_6_code) (ymax := 1) (yret := (some .boolean)) (yrm := ({ frames := 0, cells := 0, slots := 0, locals := 0 } : Room)) (by decide +kernel) (hw _ (List.mem_of_getElem? (i := 53) rfl)) (hw _ (List.mem_of_getElem? (i := 54) rfl)) (hw _ (List.mem_of_getElem? (i := 56) rfl)) (hw _ (List.mem_of_getElem? (i := 55) rfl)) (hw _ (List.mem_of_getElem? (i := 28) rfl)) (hw _ (List.mem_of_getElem? (i := 57) rfl)) (by decide) A127 [] [] (k_isFlag_n l wd b127 P128.old F127) (le_ _ _ rfl) (W := 0) (le_ _ _ rfl) (by decide +kernel : parseMethodDescriptor "()Z" = some ⟨[], some .boolean⟩) rfl rfl rfl (le_ _ _ rfl) (le_ _ _ rfl) (le_ _ _ rfl) (pc' := 148) rfl (fun T129 h129 v129 P129 Q129 => ?_)
          replace P129 := P129.more (k' := 10) (n' := 34) (le_ _ _ rfl) (le_ _ _ rfl)
          obtain ⟨rfl, rfl⟩ := Q129
          refine b_ifN C P129 (cd := .eq) (o := 7) (by decide +kernel) (pc' := 151) rfl (by decide : ¬ (1 : Int32) = 0) ?_
          refine blk C P129 [.iconst 1] (by decide +kernel) (pc' := 152) (L' := [.val (.int x0), .val (.int x1), .val (.int x2), .val (.int x3), .val (.ref b1), .val (.int (x3 &&& (3 : Int32))), .val (.null), .val (.ref b106), .val (.int (1 : Int32)), .val (.int (1 : Int32)), .val (.ref h106.size), .val (.ref b127)]) (S' := [.int (1 : Int32)]) rfl ?_
          refine b_goto C P129 (o := 4) (by decide +kernel) (pc' := 156) (by decide) ?_
          exact r_int C P129 (ty := .boolean) (by simp) rfl (by decide +kernel) (le_ _ _ rfl) (le_ _ _ rfl) ⟨_, rfl, rfl⟩
    · skip
      refine blk C P1 [.aconst_null] (by decide +kernel) (pc' := 58) (L' := [.val (.int x0), .val (.int x1), .val (.int x2), .val (.int x3), .val (.ref b1), .val (.int (x3 &&& (3 : Int32))), .val (.null), .unset, .unset, .unset, .unset, .unset]) (S' := [.null]) rfl ?_
      refine b_goto C P1 (o := 7) (by decide +kernel) (pc' := 65) (by decide) ?_
      refine blk C P1 [.astore 7, .iload_n 3, .iconst 3, .iushr, .iconst 1, .iand] (by decide +kernel) (pc' := 72) (L' := [.val (.int x0), .val (.int x1), .val (.int x2), .val (.int x3), .val (.ref b1), .val (.int (x3 &&& (3 : Int32))), .val (.null), .val (.null), .unset, .unset, .unset, .unset]) (S' := [.int ((XT.ushr x3 (3 : Int32)) &&& (1 : Int32))]) rfl ?_
      refine b_if C P1 (cd := .eq) (o := 7) (by decide +kernel) (pc' := 79) (by decide) (pn := 75) rfl (fun (q130 : ((XT.ushr x3 (3 : Int32)) &&& (1 : Int32)) = 0) => ?_) (fun (q130 : ¬ ((XT.ushr x3 (3 : Int32)) &&& (1 : Int32)) = 0) => ?_)
      · skip
        refine blk C P1 [.iconst 0, .istore 8, .iload_n 3, .iconst 4, .iushr, .iconst 1, .iand] (by decide +kernel) (pc' := 87) (L' := [.val (.int x0), .val (.int x1), .val (.int x2), .val (.int x3), .val (.ref b1), .val (.int (x3 &&& (3 : Int32))), .val (.null), .val (.null), .val (.int (0 : Int32)), .unset, .unset, .unset]) (S' := [.int ((XT.ushr x3 (4 : Int32)) &&& (1 : Int32))]) rfl ?_
        refine b_if C P1 (cd := .eq) (o := 7) (by decide +kernel) (pc' := 94) (by decide) (pn := 90) rfl (fun (q131 : ((XT.ushr x3 (4 : Int32)) &&& (1 : Int32)) = 0) => ?_) (fun (q131 : ¬ ((XT.ushr x3 (4 : Int32)) &&& (1 : Int32)) = 0) => ?_)
        · skip
          refine blk C P1 [.iconst 0, .istore 9] (by decide +kernel) (pc' := 97) (L' := [.val (.int x0), .val (.int x1), .val (.int x2), .val (.int x3), .val (.ref b1), .val (.int (x3 &&& (3 : Int32))), .val (.null), .val (.null), .val (.int (0 : Int32)), .val (.int (0 : Int32)), .unset, .unset]) (S' := []) rfl ?_
          refine s_new C P1 (idx := 22) (by decide +kernel) (hw _ (List.mem_of_getElem? (i := 26) rfl)) (hw _ (List.mem_of_getElem? (i := 27) rfl)) (hw _ (List.mem_of_getElem? (i := 28) rfl)) (le_ _ _ rfl) (le_ _ _ rfl) (pc' := 100) rfl (fun T132 h132 P132 E132 B132 => ?_)
          replace P132 := P132.more (k' := 5) (n' := 17) (le_ _ _ rfl) (le_ _ _ rfl)
          refine blk C P132 [.dup, .aload 4, .aload 6, .aload 7, .iload 8, .iload 9] (by decide +kernel) (pc' := 111) (L' := [.val (.int x0), .val (.int x1), .val (.int x2), .val (.int x3), .val (.ref b1), .val (.int (x3 &&& (3 : Int32))), .val (.null), .val (.null), .val (.int (0 : Int32)), .val (.int (0 : Int32)), .unset, .unset]) (S' := [.int (0 : Int32), .int (0 : Int32), .null, .null, .ref b1, .ref h1.size, .ref h1.size]) rfl ?_
          refine c_special C P132 (idx := 24) (y := (⟨"com/example/user_data_sweeper/userdatasweeper/Option", "<init>", "(Ljava/lang/String;Ljava/lang/String;Ljava/lang/String;ZZ)V"⟩ : MethodName)) (ybytes := prog_20_method_1_code) (ymax := 6) (yrm := ({ frames := 2, cells := 0, slots := 0, locals := 24 } : Room)) rfl (by decide +kernel) (hw _ (List.mem_of_getElem? (i := 29) rfl)) (hw _ (List.mem_of_getElem? (i := 30) rfl)) (hw _ (List.mem_of_getElem? (i := 28) rfl)) (hw _ (List.mem_of_getElem? (i := 31) rfl)) (by decide) [.ref b1, .null, .null, .int (0 : Int32), .int (0 : Int32)] [.ref h1.size] (k_opt_nn l wd (h1.size) b1 (0 : Int32) (0 : Int32) P132.old B132 ⟨rfl, rfl⟩ ⟨rfl, rfl⟩) (le_ _ _ rfl) (W := 1) (le_ _ _ rfl) (by decide +kernel : parseMethodDescriptor "(Ljava/lang/String;Ljava/lang/String;Ljava/lang/String;ZZ)V" = some ⟨[(.object "java/lang/String"), (.object "java/lang/String"), (.object "java/lang/String"), .boolean, .boolean], none⟩) rfl rfl rfl (le_ _ _ rfl) (le_ _ _ rfl) (le_ _ _ rfl) (pc' := 114) rfl (fun T133 h133 P133 Q133 => ?_)
          replace P133 := P133.more (k' := 5) (n' := 17) (le_ _ _ rfl) (le_ _ _ rfl)
          obtain ⟨K133, A133, F133_0⟩ := Q133
          refine blk C P133 [.astore 10, .aload 4, .aload 7] (by decide +kernel) (pc' := 120) (L' := [.val (.int x0), .val (.int x1), .val (.int x2), .val (.int x3), .val (.ref b1), .val (.int (x3 &&& (3 : Int32))), .val (.null), .val (.null), .val (.int (0 : Int32)), .val (.int (0 : Int32)), .val (.ref h1.size), .unset]) (S' := [.null, .ref b1]) rfl ?_
          refine c_static C P133 (idx := 27) (y := (⟨"com/example/user_data_sweeper/userdatasweeper/Option", "flag", "(Ljava/lang/String;Ljava/lang/String;)Lcom/example/user_data_sweeper/userdatasweeper/Option;"⟩ : MethodName)) (ybytes := prog_20_method_5_code) (ymax := 2) (yret := (some (.object "com/example/user_data_sweeper/userdatasweeper/Option"))) (yrm := ({ frames := 3, cells := 1, slots := 5, locals := 42 } : Room)) (by decide +kernel) (hw _ (List.mem_of_getElem? (i := 48) rfl)) (hw _ (List.mem_of_getElem? (i := 49) rfl)) (hw _ (List.mem_of_getElem? (i := 28) rfl)) (hw _ (List.mem_of_getElem? (i := 50) rfl)) (by decide) [.ref b1, .null] [] (k_flag_n l wd b1 P133.old ) (le_ _ _ rfl) (W := 0) (le_ _ _ rfl) (by decide +kernel : parseMethodDescriptor "(Ljava/lang/String;Ljava/lang/String;)Lcom/example/user_data_sweeper/userdatasweeper/Option;" = some ⟨[(.object "java/lang/String"), (.object "java/lang/String")], some (.object "com/example/user_data_sweeper/userdatasweeper/Option")⟩) rfl rfl rfl (le_ _ _ rfl) (le_ _ _ rfl) (le_ _ _ rfl) (pc' := 123) rfl (fun T134 h134 v134 P134 Q134 => ?_)
          replace P134 := P134.more (k' := 6) (n' := 22) (le_ _ _ rfl) (le_ _ _ rfl)
          obtain ⟨b134, rfl, E134, A134, F134⟩ := Q134
          refine blk C P134 [.astore 11, .aload 10] (by decide +kernel) (pc' := 127) (L' := [.val (.int x0), .val (.int x1), .val (.int x2), .val (.int x3), .val (.ref b1), .val (.int (x3 &&& (3 : Int32))), .val (.null), .val (.null), .val (.int (0 : Int32)), .val (.int (0 : Int32)), .val (.ref h1.size), .val (.ref b134)]) (S' := [.ref h1.size]) rfl ?_
          refine c_virtual C P134 (idx := 31) (y := (⟨"com/example/user_data_sweeper/userdatasweeper/Option", "isFlag", "()Z"⟩ : MethodName)) (K0 := "com/example/user_data_sweeper/userdatasweeper/Option") (ybytes := prog_20_method_6_code) (ymax := 1) (yret := (some .boolean)) (yrm := ({ frames := 0, cells := 0, slots := 0, locals := 0 } : Room)) (by decide +kernel) (hw _ (List.mem_of_getElem? (i := 53) rfl)) (hw _ (List.mem_of_getElem? (i := 54) rfl)) (hw _ (List.mem_of_getElem? (i := 56) rfl)) (hw _ (List.mem_of_getElem? (i := 55) rfl)) (hw _ (List.mem_of_getElem? (i := 28) rfl)) (hw _ (List.mem_of_getElem? (i := 57) rfl)) (by decide) (A133.ext E134) [] [] (k_isFlag_n l wd (h1.size) P134.old (F133_0.ext E134)) (le_ _ _ rfl) (W := 0) (le_ _ _ rfl) (by decide +kernel : parseMethodDescriptor "()Z" = some ⟨[], some .boolean⟩) rfl rfl rfl (le_ _ _ rfl) (le_ _ _ rfl) (le_ _ _ rfl) (pc' := 130) rfl (fun T135 h135 v135 P135 Q135 => ?_)
          replace P135 := P135.more (k' := 6) (n' := 22) (le_ _ _ rfl) (le_ _ _ rfl)
          obtain ⟨rfl, rfl⟩ := Q135
          refine blk C P135 [.aload 6] (by decide +kernel) (pc' := 132) (L' := [.val (.int x0), .val (.int x1), .val (.int x2), .val (.int x3), .val (.ref b1), .val (.int (x3 &&& (3 : Int32))), .val (.null), .val (.null), .val (.int (0 : Int32)), .val (.int (0 : Int32)), .val (.ref h1.size), .val (.ref b134)]) (S' := [.null, .int (1 : Int32)]) rfl ?_
          refine b_nonnullN C P135 (o := 7) (by decide +kernel) (pc' := 135) rfl ?_
          refine blk C P135 [.iconst 1] (by decide +kernel) (pc' := 136) (L' := [.val (.int x0), .val (.int x1), .val (.int x2), .val (.int x3), .val (.ref b1), .val (.int (x3 &&& (3 : Int32))), .val (.null), .val (.null), .val (.int (0 : Int32)), .val (.int (0 : Int32)), .val (.ref h1.size), .val (.ref b134)]) (S' := [.int (1 : Int32), .int (1 : Int32)]) rfl ?_
          refine b_goto C P135 (o := 4) (by decide +kernel) (pc' := 140) (by decide) ?_
          refine b_cmN C P135 (cd := .ne) (o := 15) (by decide +kernel) (pc' := 143) rfl (by decide : (1 : Int32) = (1 : Int32)) ?_
          refine blk C P135 [.aload 11] (by decide +kernel) (pc' := 145) (L' := [.val (.int x0), .val (.int x1), .val (.int x2), .val (.int x3), .val (.ref b1), .val (.int (x3 &&& (3 : Int32))), .val (.null), .val (.null), .val (.int (0 : Int32)), .val (.int (0 : Int32)), .val (.ref h1.size), .val (.ref b134)]) (S' := [.ref b134]) rfl ?_
          refine c_virtual C P135 (idx := 31) (y := (⟨"com/example/user_data_sweeper/userdatasweeper/Option", "isFlag", "()Z"⟩ : MethodName)) (K0 := "com/example/user_data_sweeper/userdatasweeper/Option") (ybytes := prog_20_method_6_code) (ymax := 1) (yret := (some .boolean)) (yrm := ({ frames := 0, cells := 0, slots := 0, locals := 0 } : Room)) (by decide +kernel) (hw _ (List.mem_of_getElem? (i := 53) rfl)) (hw _ (List.mem_of_getElem? (i := 54) rfl)) (hw _ (List.mem_of_getElem? (i := 56) rfl)) (hw _ (List.mem_of_getElem? (i := 55) rfl)) (hw _ (List.mem_of_getElem? (i := 28) rfl)) (hw _ (List.mem_of_getElem? (i := 57) rfl)) (by decide) A134 [] [] (k_isFlag_n l wd b134 P135.old F134) (le_ _ _ rfl) (W := 0) (le_ _ _ rfl) (by decide +kernel : parseMethodDescriptor "()Z" = some ⟨[], some .boolean⟩) rfl rfl rfl (le_ _ _ rfl) (le_ _ _ rfl) (le_ _ _ rfl) (pc' := 148) rfl (fun T136 h136 v136 P136 Q136 => ?_)
          replace P136 := P136.more (k' := 6) (n' := 22) (le_ _ _ rfl) (le_ _ _ rfl)
          obtain ⟨rfl, rfl⟩ := Q136
          refine b_ifN C P136 (cd := .eq) (o := 7) (by decide +kernel) (pc' := 151) rfl (by decide : ¬ (1 : Int32) = 0) ?_
          refine blk C P136 [.iconst 1] (by decide +kernel) (pc' := 152) (L' := [.val (.int x0), .val (.int x1), .val (.int x2), .val (.int x3), .val (.ref b1), .val (.int (x3 &&& (3 : Int32))), .val (.null), .val (.null), .val (.int (0 : Int32)), .val (.int (0 : Int32)), .val (.ref h1.size), .val (.ref b134)]) (S' := [.int (1 : Int32)]) rfl ?_
          refine b_goto C P136 (o := 4) (by decide +kernel) (pc' := 156) (by decide) ?_
          exact r_int C P136 (ty := .boolean) (by simp) rfl (by decide +kernel) (le_ _ _ rfl) (le_ _ _ rfl) ⟨_, rfl, rfl⟩
        · skip
          refine blk C P1 [.iconst 1] (by decide +kernel) (pc' := 91) (L' := [.val (.int x0), .val (.int x1), .val (.int x2), .val (.int x3), .val (.ref b1), .val (.int (x3 &&& (3 : Int32))), .val (.null), .val (.null), .val (.int (0 : Int32)), .unset, .unset, .unset]) (S' := [.int (1 : Int32)]) rfl ?_
          refine b_goto C P1 (o := 4) (by decide +kernel) (pc' := 95) (by decide) ?_
          refine blk C P1 [.istore 9] (by decide +kernel) (pc' := 97) (L' := [.val (.int x0), .val (.int x1), .val (.int x2), .val (.int x3), .val (.ref b1), .val (.int (x3 &&& (3 : Int32))), .val (.null), .val (.null), .val (.int (0 : Int32)), .val (.int (1 : Int32)), .unset, .unset]) (S' := []) rfl ?_
          refine s_new C P1 (idx := 22) (by decide +kernel) (hw _ (List.mem_of_getElem? (i := 26) rfl)) (hw _ (List.mem_of_getElem? (i := 27) rfl)) (hw _ (List.mem_of_getElem? (i := 28) rfl)) (le_ _ _ rfl) (le_ _ _ rfl) (pc' := 100) rfl (fun T137 h137 P137 E137 B137 => ?_)
          replace P137 := P137.more (k' := 5) (n' := 17) (le_ _ _ rfl) (le_ _ _ rfl)
          refine blk C P137 [.dup, .aload 4, .aload 6, .aload 7, .iload 8, .iload 9] (by decide +kernel) (pc' := 111) (L' := [.val (.int x0), .val (.int x1), .val (.int x2), .val (.int x3), .val (.ref b1), .val (.int (x3 &&& (3 : Int32))), .val (.null), .val (.null), .val (.int (0 : Int32)), .val (.int (1 : Int32)), .unset, .unset]) (S' := [.int (1 : Int32), .int (0 : Int32), .null, .null, .ref b1, .ref h1.size, .ref h1.size]) rfl ?_
          refine c_special C P137 (idx := 24) (y := (⟨"com/example/user_data_sweeper/userdatasweeper/Option", "<init>", "(Ljava/lang/String;Ljava/lang/String;Ljava/lang/String;ZZ)V"⟩ : MethodName)) (ybytes := prog_20_method_1_code) (ymax := 6) (yrm := ({ frames := 2, cells := 0, slots := 0, locals := 24 } : Room)) rfl (by decide +kernel) (hw _ (List.mem_of_getElem? (i := 29) rfl)) (hw _ (List.mem_of_getElem? (i := 30) rfl)) (hw _ (List.mem_of_getElem? (i := 28) rfl)) (hw _ (List.mem_of_getElem? (i := 31) rfl)) (by decide) [.ref b1, .null, .null, .int (0 : Int32), .int (1 : Int32)] [.ref h1.size] (k_opt_nn l wd (h1.size) b1 (0 : Int32) (1 : Int32) P137.old B137 ⟨rfl, rfl⟩ ⟨rfl, rfl⟩) (le_ _ _ rfl) (W := 1) (le_ _ _ rfl) (by decide +kernel : parseMethodDescriptor "(Ljava/lang/String;Ljava/lang/String;Ljava/lang/String;ZZ)V" = some ⟨[(.object "java/lang/String"), (.object "java/lang/String"), (.object "java/lang/String"), .boolean, .boolean], none⟩) rfl rfl rfl (le_ _ _ rfl) (le_ _ _ rfl) (le_ _ _ rfl) (pc' := 114) rfl (fun T138 h138 P138 Q138 => ?_)
          replace P138 := P138.more (k' := 5) (n' := 17) (le_ _ _ rfl) (le_ _ _ rfl)
          obtain ⟨K138, A138, F138_0⟩ := Q138
          refine blk C P138 [.astore 10, .aload 4, .aload 7] (by decide +kernel) (pc' := 120) (L' := [.val (.int x0), .val (.int x1), .val (.int x2), .val (.int x3), .val (.ref b1), .val (.int (x3 &&& (3 : Int32))), .val (.null), .val (.null), .val (.int (0 : Int32)), .val (.int (1 : Int32)), .val (.ref h1.size), .unset]) (S' := [.null, .ref b1]) rfl ?_
          refine c_static C P138 (idx := 27) (y := (⟨"com/example/user_data_sweeper/userdatasweeper/Option", "flag", "(Ljava/lang/String;Ljava/lang/String;)Lcom/example/user_data_sweeper/userdatasweeper/Option;"⟩ : MethodName)) (ybytes := prog_20_method_5_code) (ymax := 2) (yret := (some (.object "com/example/user_data_sweeper/userdatasweeper/Option"))) (yrm := ({ frames := 3, cells := 1, slots := 5, locals := 42 } : Room)) (by decide +kernel) (hw _ (List.mem_of_getElem? (i := 48) rfl)) (hw _ (List.mem_of_getElem? (i := 49) rfl)) (hw _ (List.mem_of_getElem? (i := 28) rfl)) (hw _ (List.mem_of_getElem? (i := 50) rfl)) (by decide) [.ref b1, .null] [] (k_flag_n l wd b1 P138.old ) (le_ _ _ rfl) (W := 0) (le_ _ _ rfl) (by decide +kernel : parseMethodDescriptor "(Ljava/lang/String;Ljava/lang/String;)Lcom/example/user_data_sweeper/userdatasweeper/Option;" = some ⟨[(.object "java/lang/String"), (.object "java/lang/String")], some (.object "com/example/user_data_sweeper/userdatasweeper/Option")⟩) rfl rfl rfl (le_ _ _ rfl) (le_ _ _ rfl) (le_ _ _ rfl) (pc' := 123) rfl (fun T139 h139 v139 P139 Q139 => ?_)
          replace P139 := P139.more (k' := 6) (n' := 22) (le_ _ _ rfl) (le_ _ _ rfl)
          obtain ⟨b139, rfl, E139, A139, F139⟩ := Q139
          refine blk C P139 [.astore 11, .aload 10] (by decide +kernel) (pc' := 127) (L' := [.val (.int x0), .val (.int x1), .val (.int x2), .val (.int x3), .val (.ref b1), .val (.int (x3 &&& (3 : Int32))), .val (.null), .val (.null), .val (.int (0 : Int32)), .val (.int (1 : Int32)), .val (.ref h1.size), .val (.ref b139)]) (S' := [.ref h1.size]) rfl ?_
          refine c_virtual C P139 (idx := 31) (y := (⟨"com/example/user_data_sweeper/userdatasweeper/Option", "isFlag", "()Z"⟩ : MethodName)) (K0 := "com/example/user_data_sweeper/userdatasweeper/Option") (ybytes := prog_20_method_6_code) (ymax := 1) (yret := (some .boolean)) (yrm := ({ frames := 0, cells := 0, slots := 0, locals := 0 } : Room)) (by decide +kernel) (hw _ (List.mem_of_getElem? (i := 53) rfl)) (hw _ (List.mem_of_getElem? (i := 54) rfl)) (hw _ (List.mem_of_getElem? (i := 56) rfl)) (hw _ (List.mem_of_getElem? (i := 55) rfl)) (hw _ (List.mem_of_getElem? (i := 28) rfl)) (hw _ (List.mem_of_getElem? (i := 57) rfl)) (by decide) (A138.ext E139) [] [] (k_isFlag_n l wd (h1.size) P139.old (F138_0.ext E139)) (le_ _ _ rfl) (W := 0) (le_ _ _ rfl) (by decide +kernel : parseMethodDescriptor "()Z" = some ⟨[], some .boolean⟩) rfl rfl rfl (le_ _ _ rfl) (le_ _ _ rfl) (le_ _ _ rfl) (pc' := 130) rfl (fun T140 h140 v140 P140 Q140 => ?_)
          replace P140 := P140.more (k' := 6) (n' := 22) (le_ _ _ rfl) (le_ _ _ rfl)
          obtain ⟨rfl, rfl⟩ := Q140
          refine blk C P140 [.aload 6] (by decide +kernel) (pc' := 132) (L' := [.val (.int x0), .val (.int x1), .val (.int x2), .val (.int x3), .val (.ref b1), .val (.int (x3 &&& (3 : Int32))), .val (.null), .val (.null), .val (.int (0 : Int32)), .val (.int (1 : Int32)), .val (.ref h1.size), .val (.ref b139)]) (S' := [.null, .int (1 : Int32)]) rfl ?_
          refine b_nonnullN C P140 (o := 7) (by decide +kernel) (pc' := 135) rfl ?_
          refine blk C P140 [.iconst 1] (by decide +kernel) (pc' := 136) (L' := [.val (.int x0), .val (.int x1), .val (.int x2), .val (.int x3), .val (.ref b1), .val (.int (x3 &&& (3 : Int32))), .val (.null), .val (.null), .val (.int (0 : Int32)), .val (.int (1 : Int32)), .val (.ref h1.size), .val (.ref b139)]) (S' := [.int (1 : Int32), .int (1 : Int32)]) rfl ?_
          refine b_goto C P140 (o := 4) (by decide +kernel) (pc' := 140) (by decide) ?_
          refine b_cmN C P140 (cd := .ne) (o := 15) (by decide +kernel) (pc' := 143) rfl (by decide : (1 : Int32) = (1 : Int32)) ?_
          refine blk C P140 [.aload 11] (by decide +kernel) (pc' := 145) (L' := [.val (.int x0), .val (.int x1), .val (.int x2), .val (.int x3), .val (.ref b1), .val (.int (x3 &&& (3 : Int32))), .val (.null), .val (.null), .val (.int (0 : Int32)), .val (.int (1 : Int32)), .val (.ref h1.size), .val (.ref b139)]) (S' := [.ref b139]) rfl ?_
          refine c_virtual C P140 (idx := 31) (y := (⟨"com/example/user_data_sweeper/userdatasweeper/Option", "isFlag", "()Z"⟩ : MethodName)) (K0 := "com/example/user_data_sweeper/userdatasweeper/Option") (ybytes := prog_20_method_6_code) (ymax := 1) (yret := (some .boolean)) (yrm := ({ frames := 0, cells := 0, slots := 0, locals := 0 } : Room)) (by decide +kernel) (hw _ (List.mem_of_getElem? (i := 53) rfl)) (hw _ (List.mem_of_getElem? (i := 54) rfl)) (hw _ (List.mem_of_getElem? (i := 56) rfl)) (hw _ (List.mem_of_getElem? (i := 55) rfl)) (hw _ (List.mem_of_getElem? (i := 28) rfl)) (hw _ (List.mem_of_getElem? (i := 57) rfl)) (by decide) A139 [] [] (k_isFlag_n l wd b139 P140.old F139) (le_ _ _ rfl) (W := 0) (le_ _ _ rfl) (by decide +kernel : parseMethodDescriptor "()Z" = some ⟨[], some .boolean⟩) rfl rfl rfl (le_ _ _ rfl) (le_ _ _ rfl) (le_ _ _ rfl) (pc' := 148) rfl (fun T141 h141 v141 P141 Q141 => ?_)
          replace P141 := P141.more (k' := 6) (n' := 22) (le_ _ _ rfl) (le_ _ _ rfl)
          obtain ⟨rfl, rfl⟩ := Q141
          refine b_ifN C P141 (cd := .eq) (o := 7) (by decide +kernel) (pc' := 151) rfl (by decide : ¬ (1 : Int32) = 0) ?_
          refine blk C P141 [.iconst 1] (by decide +kernel) (pc' := 152) (L' := [.val (.int x0), .val (.int x1), .val (.int x2), .val (.int x3), .val (.ref b1), .val (.int (x3 &&& (3 : Int32))), .val (.null), .val (.null), .val (.int (0 : Int32)), .val (.int (1 : Int32)), .val (.ref h1.size), .val (.ref b139)]) (S' := [.int (1 : Int32)]) rfl ?_
          refine b_goto C P141 (o := 4) (by decide +kernel) (pc' := 156) (by decide) ?_
          exact r_int C P141 (ty := .boolean) (by simp) rfl (by decide +kernel) (le_ _ _ rfl) (le_ _ _ rfl) ⟨_, rfl, rfl⟩
      · skip
        refine blk C P1 [.iconst 1] (by decide +kernel) (pc' := 76) (L' := [.val (.int x0), .val (.int x1), .val (.int x2), .val (.int x3), .val (.ref b1), .val (.int (x3 &&& (3 : Int32))), .val (.null), .val (.null), .unset, .unset, .unset, .unset]) (S' := [.int (1 : Int32)]) rfl ?_
        refine b_goto C P1 (o := 4) (by decide +kernel) (pc' := 80) (by decide) ?_
        refine blk C P1 [.istore 8, .iload_n 3, .iconst 4, .iushr, .iconst 1, .iand] (by decide +kernel) (pc' := 87) (L' := [.val (.int x0), .val (.int x1), .val (.int x2), .val (.int x3), .val (.ref b1), .val (.int (x3 &&& (3 : Int32))), .val (.null), .val (.null), .val (.int (1 : Int32)), .unset, .unset, .unset]) (S' := [.int ((XT.ushr x3 (4 : Int32)) &&& (1 : Int32))]) rfl ?_
        refine b_if C P1 (cd := .eq) (o := 7) (by decide +kernel) (pc' := 94) (by decide) (pn := 90) rfl (fun (q142 : ((XT.ushr x3 (4 : Int32)) &&& (1 : Int32)) = 0) => ?_) (fun (q142 : ¬ ((XT.ushr x3 (4 : Int32)) &&& (1 : Int32)) = 0) => ?_)
        · skip
          refine blk C P1 [.iconst 0, .istore 9] (by decide +kernel) (pc' := 97) (L' := [.val (.int x0), .val (.int x1), .val (.int x2), .val (.int x3), .val (.ref b1), .val (.int (x3 &&& (3 : Int32))), .val (.null), .val (.null), .val (.int (1 : Int32)), .val (.int (0 : Int32)), .unset, .unset]) (S' := []) rfl ?_
          refine s_new C P1 (idx := 22) (by decide +kernel) (hw _ (List.mem_of_getElem? (i := 26) rfl)) (hw _ (List.mem_of_getElem? (i := 27) rfl)) (hw _ (List.mem_of_getElem? (i := 28) rfl)) (le_ _ _ rfl) (le_ _ _ rfl) (pc' := 100) rfl (fun T143 h143 P143 E143 B143 => ?_)
          replace P143 := P143.more (k' := 5) (n' := 17) (le_ _ _ rfl) (le_ _ _ rfl)
          refine blk C P143 [.dup, .aload 4, .aload 6, .aload 7, .iload 8, .iload 9] (by decide +kernel) (pc' := 111) (L' := [.val (.int x0), .val (.int x1), .val (.int x2), .val (.int x3), .val (.ref b1), .val (.int (x3 &&& (3 : Int32))), .val (.null), .val (.null), .val (.int (1 : Int32)), .val (.int (0 : Int32)), .unset, .unset]) (S' := [.int (0 : Int32), .int (1 : Int32), .null, .null, .ref b1, .ref h1.size, .ref h1.size]) rfl ?_
          refine c_special C P143 (idx := 24) (y := (⟨"com/example/user_data_sweeper/userdatasweeper/Option", "<init>", "(Ljava/lang/String;Ljava/lang/String;Ljava/lang/String;ZZ)V"⟩ : MethodName)) (ybytes := prog_20_method_1_code) (ymax := 6) (yrm := ({ frames := 2, cells := 0, slots := 0, locals := 24 } : Room)) rfl (by decide +kernel) (hw _ (List.mem_of_getElem? (i := 29) rfl)) (hw _ (List.mem_of_getElem? (i := 30) rfl)) (hw _ (List.mem_of_getElem? (i := 28) rfl)) (hw _ (List.mem_of_getElem? (i := 31) rfl)) (by decide) [.ref b1, .null, .null, .int (1 : Int32), .int (0 : Int32)] [.ref h1.size] (k_opt_nn l wd (h1.size) b1 (1 : Int32) (0 : Int32) P143.old B143 ⟨rfl, rfl⟩ ⟨rfl, rfl⟩) (le_ _ _ rfl) (W := 1) (le_ _ _ rfl) (by decide +kernel : parseMethodDescriptor "(Ljava/lang/String;Ljava/lang/String;Ljava/lang/String;ZZ)V" = some ⟨[(.object "java/lang/String"), (.object "java/lang/String"), (.object "java/lang/String"), .boolean, .boolean], none⟩) rfl rfl rfl (le_ _ _ rfl) (le_ _ _ rfl) (le_ _ _ rfl) (pc' := 114) rfl (fun T144 h144 P144 Q144 => ?_)
          replace P144 := P144.more (k' := 5) (n' := 17) (le_ _ _ rfl) (le_ _ _ rfl)
          obtain ⟨K144, A144, F144_0⟩ := Q144
          refine blk C P144 [.astore 10, .aload 4, .aload 7] (by decide +kernel) (pc' := 120) (L' := [.val (.int x0), .val (.int x1), .val (.int x2), .val (.int x3), .val (.ref b1), .val (.int (x3 &&& (3 : Int32))), .val (.null), .val (.null), .val (.int (1 : Int32)), .val (.int (0 : Int32)), .val (.ref h1.size), .unset]) (S' := [.null, .ref b1]) rfl ?_
          refine c_static C P144 (idx := 27) (y := (⟨"com/example/user_data_sweeper/userdatasweeper/Option", "flag", "(Ljava/lang/String;Ljava/lang/String;)Lcom/example/user_data_sweeper/userdatasweeper/Option;"⟩ : MethodName)) (ybytes := prog_20_method_5_code) (ymax := 2) (yret := (some (.object "com/example/user_data_sweeper/userdatasweeper/Option"))) (yrm := ({ frames := 3, cells := 1, slots := 5, locals := 42 } : Room)) (by decide +kernel) (hw _ (List.mem_of_getElem? (i := 48) rfl)) (hw _ (List.mem_of_getElem? (i := 49) rfl)) (hw _ (List.mem_of_getElem? (i := 28) rfl)) (hw _ (List.mem_of_getElem? (i := 50) rfl)) (by decide) [.ref b1, .null] [] (k_flag_n l wd b1 P144.old ) (le_ _ _ rfl) (W := 0) (le_ _ _ rfl) (by decide +kernel : parseMethodDescriptor "(Ljava/lang/String;Ljava/lang/String;)Lcom/example/user_data_sweeper/userdatasweeper/Option;" = some ⟨[(.object "java/lang/String"), (.object "java/lang/String")], some (.object "com/example/user_data_sweeper/userdatasweeper/Option")⟩) rfl rfl rfl (le_ _ _ rfl) (le_ _ _ rfl) (le_ _ _ rfl) (pc' := 123) rfl (fun T145 h145 v145 P145 Q145 => ?_)
          replace P145 := P145.more (k' := 6) (n' := 22) (le_ _ _ rfl) (le_ _ _ rfl)
          obtain ⟨b145, rfl, E145, A145, F145⟩ := Q145
          refine blk C P145 [.astore 11, .aload 10] (by decide +kernel) (pc' := 127) (L' := [.val (.int x0), .val (.int x1), .val (.int x2), .val (.int x3), .val (.ref b1), .val (.int (x3 &&& (3 : Int32))), .val (.null), .val (.null), .val (.int (1 : Int32)), .val (.int (0 : Int32)), .val (.ref h1.size), .val (.ref b145)]) (S' := [.ref h1.size]) rfl ?_
          refine c_virtual C P145 (idx := 31) (y := (⟨"com/example/user_data_sweeper/userdatasweeper/Option", "isFlag", "()Z"⟩ : MethodName)) (K0 := "com/example/user_data_sweeper/userdatasweeper/Option") (ybytes := prog_20_method_6_code) (ymax := 1) (yret := (some .boolean)) (yrm := ({ frames := 0, cells := 0, slots := 0, locals := 0 } : Room)) (by decide +kernel) (hw _ (List.mem_of_getElem? (i := 53) rfl)) (hw _ (List.mem_of_getElem? (i := 54) rfl)) (hw _ (List.mem_of_getElem? (i := 56) rfl)) (hw _ (List.mem_of_getElem? (i := 55) rfl)) (hw _ (List.mem_of_getElem? (i := 28) rfl)) (hw _ (List.mem_of_getElem? (i := 57) rfl)) (by decide) (A144.ext E145) [] [] (k_isFlag_n l wd (h1.size) P145.old (F144_0.ext E145)) (le_ _ _ rfl) (W := 0) (le_ _ _ rfl) (by decide +kernel : parseMethodDescriptor "()Z" = some ⟨[], some .boolean⟩) rfl rfl rfl (le_ _ _ rfl) (le_ _ _ rfl) (le_ _ _ rfl) (pc' := 130) rfl (fun T146 h146 v146 P146 Q146 => ?_)
          replace P146 := P146.more (k' := 6) (n' := 22) (le_ _ _ rfl) (le_ _ _ rfl)
          obtain ⟨rfl, rfl⟩ := Q146
          refine blk C P146 [.aload 6] (by decide +kernel) (pc' := 132) (L' := [.val (.int x0), .val (.int x1), .val (.int x2), .val (.int x3), .val (.ref b1), .val (.int (x3 &&& (3 : Int32))), .val (.null), .val (.null), .val (.int (1 : Int32)), .val (.int (0 : Int32)), .val (.ref h1.size), .val (.ref b145)]) (S' := [.null, .int (1 : Int32)]) rfl ?_
          refine b_nonnullN C P146 (o := 7) (by decide +kernel) (pc' := 135) rfl ?_
          refine blk C P146 [.iconst 1] (by decide +kernel) (pc' := 136) (L' := [.val (.int x0), .val (.int x1), .val (.int x2), .val (.int x3), .val (.ref b1), .val (.int (x3 &&& (3 : Int32))), .val (.null), .val (.null), .val (.int (1 : Int32)), .val (.int (0 : Int32)), .val (.ref h1.size), .val (.ref b145)]) (S' := [.int (1 : Int32), .int (1 : Int32)]) rfl ?_
          refine b_goto C P146 (o := 4) (by decide +kernel) (pc' := 140) (by decide) ?_
          refine b_cmN C P146 (cd := .ne) (o := 15) (by decide +kernel) (pc' := 143) rfl (by decide : (1 : Int32) = (1 : Int32)) ?_
          refine blk C P146 [.aload 11] (by decide +kernel) (pc' := 145) (L' := [.val (.int x0), .val (.int x1), .val (.int x2), .val (.int x3), .val (.ref b1), .val (.int (x3 &&& (3 : Int32))), .val (.null), .val (.null), .val (.int (1 : Int32)), .val (.int (0 : Int32)), .val (.ref h1.size), .val (.ref b145)]) (S' := [.ref b145]) rfl ?_
          refine c_virtual C P146 (idx := 31) (y := (⟨"com/example/user_data_sweeper/userdatasweeper/Option", "isFlag", "()Z"⟩ : MethodName)) (K0 := "com/example/user_data_sweeper/userdatasweeper/Option") (ybytes := prog_20_method_6_code) (ymax := 1) (yret := (some .boolean)) (yrm := ({ frames := 0, cells := 0, slots := 0, locals := 0 } : Room)) (by decide +kernel) (hw _ (List.mem_of_getElem? (i := 53) rfl)) (hw _ (List.mem_of_getElem? (i := 54) rfl)) (hw _ (List.mem_of_getElem? (i := 56) rfl)) (hw _ (List.mem_of_getElem? (i := 55) rfl)) (hw _ (List.mem_of_getElem? (i := 28) rfl)) (hw _ (List.mem_of_getElem? (i := 57) rfl)) (by decide) A145 [] [] (k_isFlag_n l wd b145 P146.old F145) (le_ _ _ rfl) (W := 0) (le_ _ _ rfl) (by decide +kernel : parseMethodDescriptor "()Z" = some ⟨[], some .boolean⟩) rfl rfl rfl (le_ _ _ rfl) (le_ _ _ rfl) (le_ _ _ rfl) (pc' := 148) rfl (fun T147 h147 v147 P147 Q147 => ?_)
          replace P147 := P147.more (k' := 6) (n' := 22) (le_ _ _ rfl) (le_ _ _ rfl)
          obtain ⟨rfl, rfl⟩ := Q147
          refine b_ifN C P147 (cd := .eq) (o := 7) (by decide +kernel) (pc' := 151) rfl (by decide : ¬ (1 : Int32) = 0) ?_
          refine blk C P147 [.iconst 1] (by decide +kernel) (pc' := 152) (L' := [.val (.int x0), .val (.int x1), .val (.int x2), .val (.int x3), .val (.ref b1), .val (.int (x3 &&& (3 : Int32))), .val (.null), .val (.null), .val (.int (1 : Int32)), .val (.int (0 : Int32)), .val (.ref h1.size), .val (.ref b145)]) (S' := [.int (1 : Int32)]) rfl ?_
          refine b_goto C P147 (o := 4) (by decide +kernel) (pc' := 156) (by decide) ?_
          exact r_int C P147 (ty := .boolean) (by simp) rfl (by decide +kernel) (le_ _ _ rfl) (le_ _ _ rfl) ⟨_, rfl, rfl⟩
        · skip
          refine blk C P1 [.iconst 1] (by decide +kernel) (pc' := 91) (L' := [.val (.int x0), .val (.int x1), .val (.int x2), .val (.int x3), .val (.ref b1), .val (.int (x3 &&& (3 : Int32))), .val (.null), .val (.null), .val (.int (1 : Int32)), .unset, .unset, .unset]) (S' := [.int (1 : Int32)]) rfl ?_
          refine b_goto C P1 (o := 4) (by decide +kernel) (pc' := 95) (by decide) ?_
          refine blk C P1 [.istore 9] (by decide +kernel) (pc' := 97) (L' := [.val (.int x0), .val (.int x1), .val (.int x2), .val (.int x3), .val (.ref b1), .val (.int (x3 &&& (3 : Int32))), .val (.null), .val (.null), .val (.int (1 : Int32)), .val (.int (1 : Int32)), .unset, .unset]) (S' := []) rfl ?_
          refine s_new C P1 (idx := 22) (by decide +kernel) (hw _ (List.mem_of_getElem? (i := 26) rfl)) (hw _ (List.mem_of_getElem? (i := 27) rfl)) (hw _ (List.mem_of_getElem? (i := 28) rfl)) (le_ _ _ rfl) (le_ _ _ rfl) (pc' := 100) rfl (fun T148 h148 P148 E148 B148 => ?_)
          replace P148 := P148.more (k' := 5) (n' := 17) (le_ _ _ rfl) (le_ _ _ rfl)
          refine blk C P148 [.dup, .aload 4, .aload 6, .aload 7, .iload 8, .iload 9] (by decide +kernel) (pc' := 111) (L' := [.val (.int x0), .val (.int x1), .val (.int x2), .val (.int x3), .val (.ref b1), .val (.int (x3 &&& (3 : Int32))), .val (.null), .val (.null), .val (.int (1 : Int32)), .val (.int (1 : Int32)), .unset, .unset]) (S' := [.int (1 : Int32), .int (1 : Int32), .null, .null, .ref b1, .ref h1.size, .ref h1.size]) rfl ?_
          refine c_special C P148 (idx := 24) (y := (⟨"com/example/user_data_sweeper/userdatasweeper/Option", "<init>", "(Ljava/lang/String;Ljava/lang/String;Ljava/lang/String;ZZ)V"⟩ : MethodName)) (ybytes := prog_20_method_1_code) (ymax := 6) (yrm := ({ frames := 2, cells := 0, slots := 0, locals := 24 } : Room)) rfl (by decide +kernel) (hw _ (List.mem_of_getElem? (i := 29) rfl)) (hw _ (List.mem_of_getElem? (i := 30) rfl)) (hw _ (List.mem_of_getElem? (i := 28) rfl)) (hw _ (List.mem_of_getElem? (i := 31) rfl)) (by decide) [.ref b1, .null, .null, .int (1 : Int32), .int (1 : Int32)] [.ref h1.size] (k_opt_nn l wd (h1.size) b1 (1 : Int32) (1 : Int32) P148.old B148 ⟨rfl, rfl⟩ ⟨rfl, rfl⟩) (le_ _ _ rfl) (W := 1) (le_ _ _ rfl) (by decide +kernel : parseMethodDescriptor "(Ljava/lang/String;Ljava/lang/String;Ljava/lang/String;ZZ)V" = some ⟨[(.object "java/lang/String"), (.object "java/lang/String"), (.object "java/lang/String"), .boolean, .boolean], none⟩) rfl rfl rfl (le_ _ _ rfl) (le_ _ _ rfl) (le_ _ _ rfl) (pc' := 114) rfl (fun T149 h149 P149 Q149 => ?_)
          replace P149 := P149.more (k' := 5) (n' := 17) (le_ _ _ rfl) (le_ _ _ rfl)
          obtain ⟨K149, A149, F149_0⟩ := Q149
          refine blk C P149 [.astore 10, .aload 4, .aload 7] (by decide +kernel) (pc' := 120) (L' := [.val (.int x0), .val (.int x1), .val (.int x2), .val (.int x3), .val (.ref b1), .val (.int (x3 &&& (3 : Int32))), .val (.null), .val (.null), .val (.int (1 : Int32)), .val (.int (1 : Int32)), .val (.ref h1.size), .unset]) (S' := [.null, .ref b1]) rfl ?_
          refine c_static C P149 (idx := 27) (y := (⟨"com/example/user_data_sweeper/userdatasweeper/Option", "flag", "(Ljava/lang/String;Ljava/lang/String;)Lcom/example/user_data_sweeper/userdatasweeper/Option;"⟩ : MethodName)) (ybytes := prog_20_method_5_code) (ymax := 2) (yret := (some (.object "com/example/user_data_sweeper/userdatasweeper/Option"))) (yrm := ({ frames := 3, cells := 1, slots := 5, locals := 42 } : Room)) (by decide +kernel) (hw _ (List.mem_of_getElem? (i := 48) rfl)) (hw _ (List.mem_of_getElem? (i := 49) rfl)) (hw _ (List.mem_of_getElem? (i := 28) rfl)) (hw _ (List.mem_of_getElem? (i := 50) rfl)) (by decide) [.ref b1, .null] [] (k_flag_n l wd b1 P149.old ) (le_ _ _ rfl) (W := 0) (le_ _ _ rfl) (by decide +kernel : parseMethodDescriptor "(Ljava/lang/String;Ljava/lang/String;)Lcom/example/user_data_sweeper/userdatasweeper/Option;" = some ⟨[(.object "java/lang/String"), (.object "java/lang/String")], some (.object "com/example/user_data_sweeper/userdatasweeper/Option")⟩) rfl rfl rfl (le_ _ _ rfl) (le_ _ _ rfl) (le_ _ _ rfl) (pc' := 123) rfl (fun T150 h150 v150 P150 Q150 => ?_)
          replace P150 := P150.more (k' := 6) (n' := 22) (le_ _ _ rfl) (le_ _ _ rfl)
          obtain ⟨b150, rfl, E150, A150, F150⟩ := Q150
          refine blk C P150 [.astore 11, .aload 10] (by decide +kernel) (pc' := 127) (L' := [.val (.int x0), .val (.int x1), .val (.int x2), .val (.int x3), .val (.ref b1), .val (.int (x3 &&& (3 : Int32))), .val (.null), .val (.null), .val (.int (1 : Int32)), .val (.int (1 : Int32)), .val (.ref h1.size), .val (.ref b150)]) (S' := [.ref h1.size]) rfl ?_
          refine c_virtual C P150 (idx := 31) (y := (⟨"com/example/user_data_sweeper/userdatasweeper/Option", "isFlag", "()Z"⟩ : MethodName)) (K0 := "com/example/user_data_sweeper/userdatasweeper/Option") (ybytes := prog_20_method_6_code) (ymax := 1) (yret := (some .boolean)) (yrm := ({ frames := 0, cells := 0, slots := 0, locals := 0 } : Room)) (by decide +kernel) (hw _ (List.mem_of_getElem? (i := 53) rfl)) (hw _ (List.mem_of_getElem? (i := 54) rfl)) (hw _ (List.mem_of_getElem? (i := 56) rfl)) (hw _ (List.mem_of_getElem? (i := 55) rfl)) (hw _ (List.mem_of_getElem? (i := 28) rfl)) (hw _ (List.mem_of_getElem? (i := 57) rfl)) (by decide) (A149.ext E150) [] [] (k_isFlag_n l wd (h1.size) P150.old (F149_0.ext E150)) (le_ _ _ rfl) (W := 0) (le_ _ _ rfl) (by decide +kernel : parseMethodDescriptor "()Z" = some ⟨[], some .boolean⟩) rfl rfl rfl (le_ _ _ rfl) (le_ _ _ rfl) (le_ _ _ rfl) (pc' := 130) rfl (fun T151 h151 v151 P151 Q151 => ?_)
          replace P151 := P151.more (k' := 6) (n' := 22) (le_ _ _ rfl) (le_ _ _ rfl)
          obtain ⟨rfl, rfl⟩ := Q151
          refine blk C P151 [.aload 6] (by decide +kernel) (pc' := 132) (L' := [.val (.int x0), .val (.int x1), .val (.int x2), .val (.int x3), .val (.ref b1), .val (.int (x3 &&& (3 : Int32))), .val (.null), .val (.null), .val (.int (1 : Int32)), .val (.int (1 : Int32)), .val (.ref h1.size), .val (.ref b150)]) (S' := [.null, .int (1 : Int32)]) rfl ?_
          refine b_nonnullN C P151 (o := 7) (by decide +kernel) (pc' := 135) rfl ?_
          refine blk C P151 [.iconst 1] (by decide +kernel) (pc' := 136) (L' := [.val (.int x0), .val (.int x1), .val (.int x2), .val (.int x3), .val (.ref b1), .val (.int (x3 &&& (3 : Int32))), .val (.null), .val (.null), .val (.int (1 : Int32)), .val (.int (1 : Int32)), .val (.ref h1.size), .val (.ref b150)]) (S' := [.int (1 : Int32), .int (1 : Int32)]) rfl ?_
          refine b_goto C P151 (o := 4) (by decide +kernel) (pc' := 140) (by decide) ?_
          refine b_cmN C P151 (cd := .ne) (o := 15) (by decide +kernel) (pc' := 143) rfl (by decide : (1 : Int32) = (1 : Int32)) ?_
          refine blk C P151 [.aload 11] (by decide +kernel) (pc' := 145) (L' := [.val (.int x0), .val (.int x1), .val (.int x2), .val (.int x3), .val (.ref b1), .val (.int (x3 &&& (3 : Int32))), .val (.null), .val (.null), .val (.int (1 : Int32)), .val (.int (1 : Int32)), .val (.ref h1.size), .val (.ref b150)]) (S' := [.ref b150]) rfl ?_
          refine c_virtual C P151 (idx := 31) (y := (⟨"com/example/user_data_sweeper/userdatasweeper/Option", "isFlag", "()Z"⟩ : MethodName)) (K0 := "com/example/user_data_sweeper/userdatasweeper/Option") (ybytes := prog_20_method_6_code) (ymax := 1) (yret := (some .boolean)) (yrm := ({ frames := 0, cells := 0, slots := 0, locals := 0 } : Room)) (by decide +kernel) (hw _ (List.mem_of_getElem? (i := 53) rfl)) (hw _ (List.mem_of_getElem? (i := 54) rfl)) (hw _ (List.mem_of_getElem? (i := 56) rfl)) (hw _ (List.mem_of_getElem? (i := 55) rfl)) (hw _ (List.mem_of_getElem? (i := 28) rfl)) (hw _ (List.mem_of_getElem? (i := 57) rfl)) (by decide) A150 [] [] (k_isFlag_n l wd b150 P151.old F150) (le_ _ _ rfl) (W := 0) (le_ _ _ rfl) (by decide +kernel : parseMethodDescriptor "()Z" = some ⟨[], some .boolean⟩) rfl rfl rfl (le_ _ _ rfl) (le_ _ _ rfl) (le_ _ _ rfl) (pc' := 148) rfl (fun T152 h152 v152 P152 Q152 => ?_)
          replace P152 := P152.more (k' := 6) (n' := 22) (le_ _ _ rfl) (le_ _ _ rfl)
          obtain ⟨rfl, rfl⟩ := Q152
          refine b_ifN C P152 (cd := .eq) (o := 7) (by decide +kernel) (pc' := 151) rfl (by decide : ¬ (1 : Int32) = 0) ?_
          refine blk C P152 [.iconst 1] (by decide +kernel) (pc' := 152) (L' := [.val (.int x0), .val (.int x1), .val (.int x2), .val (.int x3), .val (.ref b1), .val (.int (x3 &&& (3 : Int32))), .val (.null), .val (.null), .val (.int (1 : Int32)), .val (.int (1 : Int32)), .val (.ref h1.size), .val (.ref b150)]) (S' := [.int (1 : Int32)]) rfl ?_
          refine b_goto C P152 (o := 4) (by decide +kernel) (pc' := 156) (by decide) ?_
          exact r_int C P152 (ty := .boolean) (by simp) rfl (by decide +kernel) (le_ _ _ rfl) (le_ _ _ rfl) ⟨_, rfl, rfl⟩
set_option maxRecDepth 65536 in
set_option maxHeartbeats 4000000 in
theorem comes_1 {Post : Tables → Env → Array Value → State → Outcome → State → Prop} (hpost : ∀ tb e args s v u, (limb_1_1.after args s (.returned v) u = true ∧ limb_1_2.after args s (.returned v) u = true ∧ True) → FramedW s (.returned v) u (Jvm.fieldLocs frame_1_writes args s ++ Jvm.arrayLocs frame_1_arrays args s ++ Jvm.staticLocs frame_1_statics s) 32 1216 → Post tb e args s (.returned v) u) :
    ArmFor flags0 classFile x code maxLocals ret World_1 tables_1 room_1 Calls_1 rest_1 Pre_1 Post := by
  intro l hfl _ _ p e ha hc hk s m args below hf hA hF happ hP
  obtain ⟨hcalls, hrest, hpre⟩ := hP
  obtain ⟨-, -, -, hnamed, -, -, -, hat⟩ := (Spec.applies_iff hf).mp happ
  obtain ⟨hg, hn⟩ := and_e (Cond.before_iff.mp (show (Jvm.Cond.and given_1 narrow_1).before args s = true from hpre))
  obtain ⟨hcount, g0⟩ := and_e hg
  obtain ⟨w0, w1, w2, w3, rfl⟩ : ∃ w0 w1 w2 w3 : Value, args = #[w0, w1, w2, w3] := by
    have hs : args.size = 4 := by simpa [Cond.value, given_1] using hcount
    obtain ⟨L⟩ := args
    match L, hs with
    | [w0, w1, w2, w3], _ => exact ⟨w0, w1, w2, w3, rfl⟩
  obtain ⟨c0, g1⟩ := and_e g0
  obtain ⟨i0, e0⟩ := is_v c0
  obtain rfl : w0 = .int i0 := Option.some.inj e0
  obtain ⟨c1, g2⟩ := and_e g1
  obtain ⟨i1, e1⟩ := is_v c1
  obtain rfl : w1 = .int i1 := Option.some.inj e1
  obtain ⟨c2, g3⟩ := and_e g2
  obtain ⟨i2, e2⟩ := is_v c2
  obtain rfl : w2 = .int i2 := Option.some.inj e2
  obtain ⟨i3, e3⟩ := is_v g3
  obtain rfl : w3 = .int i3 := Option.some.inj e3
  have hw := fun d (hd : d ∈ tables_1) => atoms_spec (ws := Jvm.Cond.code x code maxLocals ret :: tables_1) hat d (List.mem_cons_of_mem _ hd)
  obtain ⟨hsets, hown0⟩ := atoms_of _ (rest_1_c_eq ▸ (show rest_1_c.before _ s = true from hrest))
  have n3 := not_v (Cond.before_iff.mp (hsets _ (List.mem_of_getElem? (i := 2) rfl)))
  obtain ⟨z, ez⟩ := is_v (Cond.before_iff.mp (hsets _ (List.mem_of_getElem? (i := 1) rfl)))
  have Sz : Sta s s.heap "java/lang/String" "COMPACT_STRINGS" "Z" (.int z) := Sta.start ez (Or.inl (hsets _ (List.mem_of_getElem? (i := 0) rfl)))
  have hz : ¬ (z = (0 : Int32)) := gotF (Cond.eq_ints ez (Term.int_eval (0))) n3
  have hEL : EW s _ consts_1 := (EW.cons (hw _ (List.mem_of_getElem? (i := 18) rfl)) (by decide) EW.nil)
  have hCH : CHv s consts_1 s.vm s.heap := CHv.start hEL (fun q hq => hcalls.1 q hq) (hsets _ (List.mem_of_getElem? (i := 2) rfl)) (hw _ (List.mem_of_getElem? (i := 19) rfl)) (hw _ (List.mem_of_getElem? (i := 5) rfl))
  have wd : Wd s _ z := ⟨hw, hEL, Sz, hz⟩
  obtain ⟨n, o, h1, h2, h3, _, L, rfl, ⟨⟨_, rfl, rfl⟩, N, -⟩, -, hq⟩ := k_law l wd i0 i1 i2 i3 (Old.start s) p e ha hc hk s m _ below hf ((Spec.applies_iff_loose hf).mp happ).1 ⟨rfl, State.Warmed39.refl s, rfl, hCH⟩ trivial
  refine ⟨n, _, h1, h2, h3, hpost _ _ _ _ _ _ ⟨Cond.after_iff.mpr rfl, Cond.after_iff.mpr (eq_i res_at (Term.int_eval (1)) rfl), trivial⟩ ⟨hq.1, hq.2.1, hq.2.2.1, (hq.2.2.2.sift fun y hy => Or.inr (N y hy)).mono (by decide) (by decide)⟩⟩
theorem main_1_1 : Claimed_1_1 := comes_1 fun _ _ _ _ _ _ h hF => ⟨h.1, hF⟩
theorem main_1_2 : Claimed_1_2 := comes_1 fun _ _ _ _ _ _ h hF => ⟨h.2.1, hF⟩
end Jvm.Pilot.@@N@@
namespace Jvm.Pilot.@@N@@
open Jvm Jvm.ClassFile Sem Op Lib Jvm.Free Jvm.Stand Jvm.Pilot.@@N@@.Jvm.D
/-! MADE BY PROGRAM (witnessworld.py) out of the Statement's table words and the real class files: 21 classes; the members and pool entries that the words name. The judged class is class 1, her method 2. -/
namespace start1
open Jvm.ClassFile
def u (s : String) : CpInfo := .utf8 (stringToUtf16 s)
/-- a pool by its gaps: so many unusable entries, then the entry; so many at the end -/
def gap : Nat → List CpInfo → List CpInfo
  | 0, r => r
  | n + 1, r => .unusable :: gap n r
def poolList (es : List (Nat × CpInfo)) (last : Nat) : List CpInfo := es.foldr (fun e r => gap e.1 (e.2 :: r)) (gap last [])
def pool (es : List (Nat × CpInfo)) (last : Nat) : Array CpInfo := ⟨poolList es last⟩
def fileOf (pool : Array CpInfo) (this : Nat) (attrs : Array Attribute := #[]) (ms : Array MethodInfo := #[]) (fl : Nat := 33) (sup : Nat := 0) (ifs : Array Nat := #[]) (fds : Array FieldInfo := #[]) : ClassFile where
  minorVersion := 0
  majorVersion := 65
  constantPool := pool
  accessFlags := fl
  thisClass := this
  superClass := sup
  interfaces := ifs
  fields := fds
  methods := ms
  attributes := attrs
def plain (name : String) (sup : Option ClassId) : Class where
  name := name
  kind := .ordinary
  loader := none
  accessFlags := 33
  super := sup
  interfaces := #[]
  cf := none
  fields := #[]
  methods := #[]
  instanceTypes := #[]
  staticTypes := #[]
  resolved := #[]
  callSites := []
  init := .initialized
  statics := none
  mirror := none

def pool0 : Array CpInfo := pool [(5, u "<init>"), (0, u "()V"), (1, .class_ 10), (1, u "java/lang/Object")] 113

def k0c0 : Code := { maxStack := 0, maxLocals := 1, code := object_method_1_code, exceptionTable := #[], attributes := #[] }
def k0m0 : Method := { name := "<init>", desc := "()V", sig := { parameters := [], returnType := none }, accessFlags := 1, code := some k0c0 }
/-- java/lang/Object -/
def k0 : Class := { plain "java/lang/Object" none with
  accessFlags := 33
  interfaces := #[]
  cf := some (fileOf pool0 8 #[] #[{ accessFlags := 1, nameIndex := 5, descriptorIndex := 6, attributes := #[] }] 33 0 #[] #[])
  fields := #[]
  methods := #[k0m0]
  instanceTypes := #[]
  staticTypes := #[]
  resolved := Array.replicate 124 none
  statics := none }

def pool1 : Array CpInfo := pool [(2, .class_ 4), (1, u "java/lang/Object"), (0, u "<init>"), (0, u "()V"), (0, .class_ 8), (0, u "java/lang/String"), (0, .methodref 7 10), (0, .nameAndType 5 11), (0, u "([C)V"), (0, .methodref 7 13), (0, .nameAndType 14 15), (0, u "valueOf"), (0, u "(C)Ljava/lang/String;"), (0, .methodref 17 18), (0, .class_ 19), (0, .nameAndType 20 21), (0, u "com/example/user_data_sweeper/userdatasweeper/OptionIsFlagPinLaw"), (0, u "draw"), (0, u "(I)Ljava/lang/String;"), (0, .class_ 23), (0, u "com/example/user_data_sweeper/userdatasweeper/Option"), (0, .methodref 22 25), (0, .nameAndType 5 26), (0, u "(Ljava/lang/String;Ljava/lang/String;Ljava/lang/String;ZZ)V"), (0, .methodref 22 28), (0, .nameAndType 29 30), (0, u "flag"), (0, u "(Ljava/lang/String;Ljava/lang/String;)Lcom/example/user_data_sweeper/userdatasweeper/Option;"), (0, .methodref 22 32), (0, .nameAndType 33 34), (0, u "isFlag"), (0, u "()Z"), (3, u "law"), (0, u "(IIII)Z")] 2

def k1m0 : Method := { name := "<init>", desc := "()V", sig := { parameters := [], returnType := none }, accessFlags := 1, code := none }
def k1c1 : Code := { maxStack := 6, maxLocals := 4, code := method_2_code, exceptionTable := #[], attributes := #[] }
def k1m1 : Method := { name := "draw", desc := "(I)Ljava/lang/String;", sig := { parameters := [.int], returnType := some (.object "java/lang/String") }, accessFlags := 10, code := some k1c1 }
def k1c2 : Code := { maxStack := 7, maxLocals := 12, code := code, exceptionTable := #[], attributes := #[] }
def k1m2 : Method := { name := "law", desc := "(IIII)Z", sig := { parameters := [.int, .int, .int, .int], returnType := some .boolean }, accessFlags := 9, code := some k1c2 }
/-- com/example/user_data_sweeper/userdatasweeper/OptionIsFlagPinLaw -/
def k1 : Class := { plain "com/example/user_data_sweeper/userdatasweeper/OptionIsFlagPinLaw" (some 0) with
  accessFlags := 49
  interfaces := #[]
  cf := some (fileOf pool1 17 #[] #[{ accessFlags := 1, nameIndex := 5, descriptorIndex := 6, attributes := #[] }, { accessFlags := 10, nameIndex := 20, descriptorIndex := 21, attributes := #[] }, { accessFlags := 9, nameIndex := 38, descriptorIndex := 39, attributes := #[] }] 49 2 #[] #[])
  fields := #[]
  methods := #[k1m0, k1m1, k1m2]
  instanceTypes := #[]
  staticTypes := #[]
  resolved := Array.replicate 42 none
  statics := none }

def pool2 : Array CpInfo := pool [(1, .class_ 2), (0, u "java/io/Serializable"), (0, .class_ 4), (0, u "java/lang/Object")] 2

/-- java/io/Serializable -/
def k2 : Class := { plain "java/io/Serializable" (some 0) with
  accessFlags := 1537
  interfaces := #[]
  cf := some (fileOf pool2 1 #[] #[] 1537 3 #[] #[])
  fields := #[]
  methods := #[]
  instanceTypes := #[]
  staticTypes := #[]
  resolved := Array.replicate 7 none
  statics := none }

def pool3 : Array CpInfo := pool [(1, .class_ 2), (0, u "java/lang/Comparable"), (0, .class_ 4), (0, u "java/lang/Object")] 7

/-- java/lang/Comparable -/
def k3 : Class := { plain "java/lang/Comparable" (some 0) with
  accessFlags := 1537
  interfaces := #[]
  cf := some (fileOf pool3 1 #[] #[] 1537 3 #[] #[])
  fields := #[]
  methods := #[]
  instanceTypes := #[]
  staticTypes := #[]
  resolved := Array.replicate 12 none
  statics := none }

def pool4 : Array CpInfo := pool [(2, .class_ 4), (1, u "java/lang/CharSequence"), (42, .class_ 48), (0, u "java/lang/CharSequence$1CodePointIterator"), (10, .class_ 60), (0, u "java/lang/CharSequence$1CharIterator"), (5, .class_ 67), (0, u "java/lang/Object")] 63

/-- java/lang/CharSequence -/
def k4 : Class := { plain "java/lang/CharSequence" (some 0) with
  accessFlags := 1537
  interfaces := #[]
  cf := some (fileOf pool4 2 #[.nestMembers #[47, 59]] #[] 1537 66 #[] #[])
  fields := #[]
  methods := #[]
  instanceTypes := #[]
  staticTypes := #[]
  resolved := Array.replicate 131 none
  statics := none }

def pool5 : Array CpInfo := pool [(1, .class_ 2), (0, u "java/lang/constant/Constable"), (0, .class_ 4), (0, u "java/lang/Object")] 6

/-- java/lang/constant/Constable -/
def k5 : Class := { plain "java/lang/constant/Constable" (some 0) with
  accessFlags := 1537
  interfaces := #[]
  cf := some (fileOf pool5 1 #[] #[] 1537 3 #[] #[])
  fields := #[]
  methods := #[]
  instanceTypes := #[]
  staticTypes := #[]
  resolved := Array.replicate 11 none
  statics := none }

def pool6 : Array CpInfo := pool [(1, .class_ 2), (0, u "java/lang/constant/ConstantDesc"), (0, .class_ 4), (0, u "java/lang/Object")] 32

/-- java/lang/constant/ConstantDesc -/
def k6 : Class := { plain "java/lang/constant/ConstantDesc" (some 0) with
  accessFlags := 1537
  interfaces := #[]
  cf := some (fileOf pool6 1 #[] #[] 1537 3 #[] #[])
  fields := #[]
  methods := #[]
  instanceTypes := #[]
  staticTypes := #[]
  resolved := Array.replicate 37 none
  statics := none }

def pool7 : Array CpInfo := pool [(1, .methodref 2 3), (0, .class_ 4), (0, .nameAndType 5 6), (0, u "java/lang/Object"), (0, u "<init>"), (0, u "()V"), (0, .string 8), (0, u ""), (0, .fieldref 10 11), (0, .class_ 12), (0, .nameAndType 13 14), (0, u "java/lang/String"), (0, u "value"), (0, u "[B"), (0, .fieldref 10 16), (0, .nameAndType 17 18), (0, u "coder"), (0, u "B"), (2, u "hash"), (0, u "I"), (2, u "hashIsZero"), (0, u "Z"), (0, .methodref 10 28), (0, .nameAndType 5 29), (0, u "([CIILjava/lang/Void;)V"), (8, .fieldref 10 39), (0, .nameAndType 40 26), (0, u "COMPACT_STRINGS"), (1, .class_ 44), (1, u "java/lang/StringUTF16"), (0, u "compress"), (1, .methodref 42 48), (0, .nameAndType 49 50), (0, u "coderFromArrayLen"), (0, u "([BI)B"), (2, u "toBytes"), (53, .class_ 109), (1, u "java/lang/StringLatin1"), (67, .methodref 42 178), (0, .nameAndType 45 179), (0, u "([CII)[B"), (29, .methodref 10 210), (0, .nameAndType 5 211), (0, u "([BB)V"), (157, u "(C)Z"), (205, .class_ 576), (0, u "java/lang/CharSequence"), (22, u "CASE_INSENSITIVE_ORDER"), (0, u "Ljava/util/Comparator;"), (181, u "valueOf"), (0, u "(C)Ljava/lang/String;"), (226, u "([C)V"), (4, .methodref 107 1016), (0, .nameAndType 1017 369), (0, u "canEncode"), (0, .methodref 107 1019), (0, .nameAndType 53 1020), (0, u "(C)[B"), (80, u "serialPersistentFields"), (0, u "[Ljava/io/ObjectStreamField;"), (0, .class_ 1104), (0, u "java/lang/String$CaseInsensitiveComparator"), (1, .class_ 1107), (0, u "java/io/Serializable"), (0, .class_ 1109), (0, u "java/lang/Comparable"), (0, .class_ 1111), (0, u "java/lang/constant/Constable"), (0, .class_ 1113), (0, u "java/lang/constant/ConstantDesc"), (2, u "serialVersionUID"), (0, u "J"), (3, u "REPL"), (0, u "C"), (2, u "LATIN1"), (1, u "UTF16")] 323

def k7m0 : Method := { name := "<init>", desc := "()V", sig := { parameters := [], returnType := none }, accessFlags := 1, code := none }
def k7c1 : Code := { maxStack := 5, maxLocals := 2, code := jdk_42_method_3_code, exceptionTable := #[], attributes := #[] }
def k7m1 : Method := { name := "<init>", desc := "([C)V", sig := { parameters := [(.array .char)], returnType := none }, accessFlags := 1, code := some k7c1 }
def k7c2 : Code := { maxStack := 4, maxLocals := 1, code := jdk_42_method_139_code, exceptionTable := #[], attributes := #[] }
def k7m2 : Method := { name := "valueOf", desc := "(C)Ljava/lang/String;", sig := { parameters := [.char], returnType := some (.object "java/lang/String") }, accessFlags := 9, code := some k7c2 }
def k7c3 : Code := { maxStack := 4, maxLocals := 6, code := jdk_42_method_149_code, exceptionTable := #[], attributes := #[] }
def k7m3 : Method := { name := "<init>", desc := "([CIILjava/lang/Void;)V", sig := { parameters := [(.array .char), .int, .int, (.object "java/lang/Void")], returnType := none }, accessFlags := 2, code := some k7c3 }
def k7c4 : Code := { maxStack := 2, maxLocals := 3, code := jdk_42_method_151_code, exceptionTable := #[], attributes := #[] }
def k7m4 : Method := { name := "<init>", desc := "([BB)V", sig := { parameters := [(.array .byte), .byte], returnType := none }, accessFlags := 0, code := some k7c4 }
/-- java/lang/String -/
def k7 : Class := { plain "java/lang/String" (some 0) with
  accessFlags := 49
  interfaces := #[2, 3, 4, 5, 6]
  cf := some (fileOf pool7 10 #[.nestMembers #[1103]] #[{ accessFlags := 1, nameIndex := 5, descriptorIndex := 6, attributes := #[] }, { accessFlags := 1, nameIndex := 5, descriptorIndex := 1010, attributes := #[] }, { accessFlags := 9, nameIndex := 782, descriptorIndex := 783, attributes := #[] }, { accessFlags := 2, nameIndex := 5, descriptorIndex := 29, attributes := #[] }, { accessFlags := 0, nameIndex := 5, descriptorIndex := 211, attributes := #[] }] 49 2 #[1106, 1108, 575, 1110, 1112] #[{ accessFlags := 18, nameIndex := 13, descriptorIndex := 14, attributes := #[] }, { accessFlags := 18, nameIndex := 17, descriptorIndex := 18, attributes := #[] }, { accessFlags := 2, nameIndex := 21, descriptorIndex := 22, attributes := #[] }, { accessFlags := 2, nameIndex := 25, descriptorIndex := 26, attributes := #[] }, { accessFlags := 26, nameIndex := 1116, descriptorIndex := 1117, attributes := #[] }, { accessFlags := 24, nameIndex := 40, descriptorIndex := 26, attributes := #[] }, { accessFlags := 26, nameIndex := 1101, descriptorIndex := 1102, attributes := #[] }, { accessFlags := 26, nameIndex := 1121, descriptorIndex := 1122, attributes := #[] }, { accessFlags := 25, nameIndex := 599, descriptorIndex := 600, attributes := #[] }, { accessFlags := 24, nameIndex := 1125, descriptorIndex := 18, attributes := #[] }, { accessFlags := 24, nameIndex := 1127, descriptorIndex := 18, attributes := #[] }])
  fields := #[{ name := "value", type := (.array .byte), accessFlags := 18, slot := 0, constantValue := 0 }, { name := "coder", type := .byte, accessFlags := 18, slot := 1, constantValue := 0 }, { name := "hash", type := .int, accessFlags := 2, slot := 2, constantValue := 0 }, { name := "hashIsZero", type := .boolean, accessFlags := 2, slot := 3, constantValue := 0 }, { name := "serialVersionUID", type := .long, accessFlags := 26, slot := 0, constantValue := 0 }, { name := "COMPACT_STRINGS", type := .boolean, accessFlags := 24, slot := 1, constantValue := 0 }, { name := "serialPersistentFields", type := (.array (.object "java/io/ObjectStreamField")), accessFlags := 26, slot := 2, constantValue := 0 }, { name := "REPL", type := .char, accessFlags := 26, slot := 3, constantValue := 0 }, { name := "CASE_INSENSITIVE_ORDER", type := (.object "java/util/Comparator"), accessFlags := 25, slot := 4, constantValue := 0 }, { name := "LATIN1", type := .byte, accessFlags := 24, slot := 5, constantValue := 0 }, { name := "UTF16", type := .byte, accessFlags := 24, slot := 6, constantValue := 0 }]
  methods := #[k7m0, k7m1, k7m2, k7m3, k7m4]
  instanceTypes := #[(.array .byte), .byte, .int, .boolean]
  staticTypes := #[.long, .boolean, (.array (.object "java/io/ObjectStreamField")), .char, (.object "java/util/Comparator"), .byte, .byte]
  resolved := Array.replicate 1451 none
  statics := some 0 }

def pool8 : Array CpInfo := pool [(1, .methodref 2 3), (0, .class_ 4), (0, .nameAndType 5 6), (0, u "java/lang/Object"), (0, u "<init>"), (0, u "()V"), (0, .class_ 8), (0, u "java/lang/Record")] 13

def k8c0 : Code := { maxStack := 1, maxLocals := 1, code := jdk_30_method_1_code, exceptionTable := #[], attributes := #[] }
def k8m0 : Method := { name := "<init>", desc := "()V", sig := { parameters := [], returnType := none }, accessFlags := 4, code := some k8c0 }
/-- java/lang/Record -/
def k8 : Class := { plain "java/lang/Record" (some 0) with
  accessFlags := 1057
  interfaces := #[]
  cf := some (fileOf pool8 7 #[] #[{ accessFlags := 4, nameIndex := 5, descriptorIndex := 6, attributes := #[] }] 1057 2 #[] #[])
  fields := #[]
  methods := #[k8m0]
  instanceTypes := #[]
  staticTypes := #[]
  resolved := Array.replicate 22 none
  statics := none }

def pool9 : Array CpInfo := pool [(1, .methodref 2 3), (0, .class_ 4), (0, .nameAndType 5 6), (0, u "java/lang/Record"), (0, u "<init>"), (0, u "()V"), (0, .fieldref 8 9), (0, .class_ 10), (0, .nameAndType 11 12), (0, u "com/example/user_data_sweeper/userdatasweeper/Option"), (0, u "name"), (0, u "Ljava/lang/String;"), (0, .fieldref 8 14), (0, .nameAndType 15 12), (0, u "label"), (0, .fieldref 8 17), (0, .nameAndType 18 12), (0, u "description"), (0, .fieldref 8 20), (0, .nameAndType 21 22), (0, u "required"), (0, u "Z"), (0, .fieldref 8 24), (0, .nameAndType 25 22), (0, u "repeatable"), (0, .methodref 8 27), (0, .nameAndType 5 28), (0, u "(Ljava/lang/String;Ljava/lang/String;Ljava/lang/String;ZZ)V"), (2, u "isFlag"), (0, u "()Z"), (21, u "flag"), (0, u "(Ljava/lang/String;Ljava/lang/String;)Lcom/example/user_data_sweeper/userdatasweeper/Option;")] 39

def k9c0 : Code := { maxStack := 2, maxLocals := 6, code := prog_20_method_1_code, exceptionTable := #[], attributes := #[] }
def k9m0 : Method := { name := "<init>", desc := "(Ljava/lang/String;Ljava/lang/String;Ljava/lang/String;ZZ)V", sig := { parameters := [(.object "java/lang/String"), (.object "java/lang/String"), (.object "java/lang/String"), .boolean, .boolean], returnType := none }, accessFlags := 0, code := some k9c0 }
def k9c1 : Code := { maxStack := 7, maxLocals := 2, code := prog_20_method_5_code, exceptionTable := #[], attributes := #[] }
def k9m1 : Method := { name := "flag", desc := "(Ljava/lang/String;Ljava/lang/String;)Lcom/example/user_data_sweeper/userdatasweeper/Option;", sig := { parameters := [(.object "java/lang/String"), (.object "java/lang/String")], returnType := some (.object "com/example/user_data_sweeper/userdatasweeper/Option") }, accessFlags := 8, code := some k9c1 }
def k9c2 : Code := { maxStack := 1, maxLocals := 1, code := prog_20_method_6_code, exceptionTable := #[], attributes := #[] }
def k9m2 : Method := { name := "isFlag", desc := "()Z", sig := { parameters := [], returnType := some .boolean }, accessFlags := 0, code := some k9c2 }
/-- com/example/user_data_sweeper/userdatasweeper/Option -/
def k9 : Class := { plain "com/example/user_data_sweeper/userdatasweeper/Option" (some 8) with
  accessFlags := 48
  interfaces := #[]
  cf := some (fileOf pool9 8 #[] #[{ accessFlags := 0, nameIndex := 5, descriptorIndex := 28, attributes := #[] }, { accessFlags := 8, nameIndex := 54, descriptorIndex := 55, attributes := #[] }, { accessFlags := 0, nameIndex := 31, descriptorIndex := 32, attributes := #[] }] 48 2 #[] #[{ accessFlags := 18, nameIndex := 11, descriptorIndex := 12, attributes := #[] }, { accessFlags := 18, nameIndex := 15, descriptorIndex := 12, attributes := #[] }, { accessFlags := 18, nameIndex := 18, descriptorIndex := 12, attributes := #[] }, { accessFlags := 18, nameIndex := 21, descriptorIndex := 22, attributes := #[] }, { accessFlags := 18, nameIndex := 25, descriptorIndex := 22, attributes := #[] }])
  fields := #[{ name := "name", type := (.object "java/lang/String"), accessFlags := 18, slot := 0, constantValue := 0 }, { name := "label", type := (.object "java/lang/String"), accessFlags := 18, slot := 1, constantValue := 0 }, { name := "description", type := (.object "java/lang/String"), accessFlags := 18, slot := 2, constantValue := 0 }, { name := "required", type := .boolean, accessFlags := 18, slot := 3, constantValue := 0 }, { name := "repeatable", type := .boolean, accessFlags := 18, slot := 4, constantValue := 0 }]
  methods := #[k9m0, k9m1, k9m2]
  instanceTypes := #[(.object "java/lang/String"), (.object "java/lang/String"), (.object "java/lang/String"), .boolean, .boolean]
  staticTypes := #[]
  resolved := Array.replicate 95 none
  statics := none }

def pool10 : Array CpInfo := pool [(6, .class_ 8), (1, u "java/lang/Object"), (0, u "<init>"), (0, u "()V"), (1, .class_ 14), (1, u "java/lang/StringUTF16"), (31, u "$assertionsDisabled"), (0, u "Z"), (13, u "HI_BYTE_SHIFT"), (0, u "I"), (2, u "LO_BYTE_SHIFT"), (49, .methodref 12 116), (0, .nameAndType 117 118), (0, u "compress"), (0, u "([CI[BII)I"), (3, u "([CII)[B"), (138, u "coderFromArrayLen"), (0, u "([BI)B"), (106, .class_ 371), (1, u "java/lang/StringUTF16$LinesSpliterator"), (58, u "MAX_LENGTH"), (196, .class_ 628), (0, u "java/lang/StringUTF16$CodePointsSpliterator"), (0, .class_ 630), (0, u "java/lang/StringUTF16$CharsSpliterator")] 4

def k10m0 : Method := { name := "<init>", desc := "()V", sig := { parameters := [], returnType := none }, accessFlags := 0, code := none }
def k10c1 : Code := { maxStack := 2, maxLocals := 2, code := jdk_52_method_15_code, exceptionTable := #[], attributes := #[] }
def k10m1 : Method := { name := "coderFromArrayLen", desc := "([BI)B", sig := { parameters := [(.array .byte), .int], returnType := some .byte }, accessFlags := 8, code := some k10c1 }
def k10c2 : Code := { maxStack := 5, maxLocals := 6, code := jdk_52_method_16_code, exceptionTable := #[], attributes := #[] }
def k10m2 : Method := { name := "compress", desc := "([CII)[B", sig := { parameters := [(.array .char), .int, .int], returnType := some (.array .byte) }, accessFlags := 9, code := some k10c2 }
def k10c3 : Code := { maxStack := 3, maxLocals := 7, code := jdk_52_method_21_code, exceptionTable := #[], attributes := #[] }
def k10m3 : Method := { name := "compress", desc := "([CI[BII)I", sig := { parameters := [(.array .char), .int, (.array .byte), .int, .int], returnType := some .int }, accessFlags := 9, code := some k10c3 }
/-- java/lang/StringUTF16 -/
def k10 : Class := { plain "java/lang/StringUTF16" (some 0) with
  accessFlags := 48
  interfaces := #[]
  cf := some (fileOf pool10 12 #[.nestMembers #[627, 629, 369]] #[{ accessFlags := 0, nameIndex := 9, descriptorIndex := 10, attributes := #[] }, { accessFlags := 8, nameIndex := 261, descriptorIndex := 262, attributes := #[] }, { accessFlags := 9, nameIndex := 117, descriptorIndex := 122, attributes := #[] }, { accessFlags := 9, nameIndex := 117, descriptorIndex := 118, attributes := #[] }] 48 6 #[] #[{ accessFlags := 26, nameIndex := 61, descriptorIndex := 62, attributes := #[] }, { accessFlags := 26, nameIndex := 65, descriptorIndex := 62, attributes := #[] }, { accessFlags := 24, nameIndex := 430, descriptorIndex := 62, attributes := #[] }, { accessFlags := 4120, nameIndex := 46, descriptorIndex := 47, attributes := #[] }])
  fields := #[{ name := "HI_BYTE_SHIFT", type := .int, accessFlags := 26, slot := 0, constantValue := 0 }, { name := "LO_BYTE_SHIFT", type := .int, accessFlags := 26, slot := 1, constantValue := 0 }, { name := "MAX_LENGTH", type := .int, accessFlags := 24, slot := 2, constantValue := 0 }, { name := "$assertionsDisabled", type := .boolean, accessFlags := 4120, slot := 3, constantValue := 0 }]
  methods := #[k10m0, k10m1, k10m2, k10m3]
  instanceTypes := #[]
  staticTypes := #[.int, .int, .int, .boolean]
  resolved := Array.replicate 635 none
  statics := none }

def pool11 : Array CpInfo := pool [(4, .class_ 6), (1, u "java/lang/Object"), (0, u "<init>"), (0, u "()V"), (5, .class_ 16), (1, u "java/lang/StringLatin1"), (73, u "canEncode"), (14, u "(C)Z"), (15, u "$assertionsDisabled"), (0, u "Z"), (98, .class_ 223), (1, u "java/lang/StringLatin1$LinesSpliterator"), (156, u "toBytes"), (1, u "(C)[B"), (7, .class_ 391), (0, u "java/lang/StringLatin1$CharsSpliterator")] 3

def k11m0 : Method := { name := "<init>", desc := "()V", sig := { parameters := [], returnType := none }, accessFlags := 0, code := none }
def k11c1 : Code := { maxStack := 2, maxLocals := 1, code := jdk_43_method_3_code, exceptionTable := #[], attributes := #[] }
def k11m1 : Method := { name := "canEncode", desc := "(C)Z", sig := { parameters := [.char], returnType := some .boolean }, accessFlags := 9, code := some k11c1 }
def k11c2 : Code := { maxStack := 4, maxLocals := 1, code := jdk_43_method_46_code, exceptionTable := #[], attributes := #[] }
def k11m2 : Method := { name := "toBytes", desc := "(C)[B", sig := { parameters := [.char], returnType := some (.array .byte) }, accessFlags := 9, code := some k11c2 }
/-- java/lang/StringLatin1 -/
def k11 : Class := { plain "java/lang/StringLatin1" (some 0) with
  accessFlags := 48
  interfaces := #[]
  cf := some (fileOf pool11 14 #[.nestMembers #[390, 221]] #[{ accessFlags := 0, nameIndex := 7, descriptorIndex := 8, attributes := #[] }, { accessFlags := 9, nameIndex := 90, descriptorIndex := 105, attributes := #[] }, { accessFlags := 9, nameIndex := 380, descriptorIndex := 382, attributes := #[] }] 48 4 #[] #[{ accessFlags := 4120, nameIndex := 121, descriptorIndex := 122, attributes := #[] }])
  fields := #[{ name := "$assertionsDisabled", type := .boolean, accessFlags := 4120, slot := 0, constantValue := 0 }]
  methods := #[k11m0, k11m1, k11m2]
  instanceTypes := #[]
  staticTypes := #[.boolean]
  resolved := Array.replicate 395 none
  statics := none }

def pool12 : Array CpInfo := pool [(2, .class_ 4), (1, u "java/lang/Object"), (0, u "<init>"), (0, u "()V"), (17, .class_ 26), (1, u "jdk/internal/util/Preconditions"), (28, .class_ 56), (0, u "jdk/internal/util/Preconditions$4"), (57, .class_ 115), (0, u "jdk/internal/util/Preconditions$1"), (7, u "SIOOBE_FORMATTER"), (0, u "Ljava/util/function/BiFunction;"), (0, .class_ 126), (0, u "jdk/internal/util/Preconditions$2"), (3, u "AIOOBE_FORMATTER"), (0, .class_ 132), (0, u "jdk/internal/util/Preconditions$3"), (3, u "IOOBE_FORMATTER")] 57

def k12m0 : Method := { name := "<init>", desc := "()V", sig := { parameters := [], returnType := none }, accessFlags := 1, code := none }
/-- jdk/internal/util/Preconditions -/
def k12 : Class := { plain "jdk/internal/util/Preconditions" (some 0) with
  accessFlags := 33
  interfaces := #[]
  cf := some (fileOf pool12 24 #[.nestMembers #[55, 131, 125, 114]] #[{ accessFlags := 1, nameIndex := 5, descriptorIndex := 6, attributes := #[] }] 33 2 #[] #[{ accessFlags := 25, nameIndex := 123, descriptorIndex := 124, attributes := #[] }, { accessFlags := 25, nameIndex := 130, descriptorIndex := 124, attributes := #[] }, { accessFlags := 25, nameIndex := 136, descriptorIndex := 124, attributes := #[] }])
  fields := #[{ name := "SIOOBE_FORMATTER", type := (.object "java/util/function/BiFunction"), accessFlags := 25, slot := 0, constantValue := 0 }, { name := "AIOOBE_FORMATTER", type := (.object "java/util/function/BiFunction"), accessFlags := 25, slot := 1, constantValue := 0 }, { name := "IOOBE_FORMATTER", type := (.object "java/util/function/BiFunction"), accessFlags := 25, slot := 2, constantValue := 0 }]
  methods := #[k12m0]
  instanceTypes := #[]
  staticTypes := #[(.object "java/util/function/BiFunction"), (.object "java/util/function/BiFunction"), (.object "java/util/function/BiFunction")]
  resolved := Array.replicate 194 none
  statics := some 1 }

def pool13 : Array CpInfo := pool [(9, u "<init>"), (6, .class_ 18), (1, u "java/lang/Object"), (0, u "()V"), (1, .class_ 23), (1, u "jdk/internal/util/ArraysSupport"), (0, u "LOG2_ARRAY_LONG_INDEX_SCALE"), (0, u "I"), (2, u "U"), (0, u "Ljdk/internal/misc/Unsafe;"), (8, u "BIG_ENDIAN"), (0, u "Z"), (8, u "LOG2_BYTE_BIT_SIZE"), (4, u "LOG2_ARRAY_INT_INDEX_SCALE"), (54, u "JLA"), (0, u "Ljdk/internal/access/JavaLangAccess;"), (11, u "LOG2_ARRAY_BOOLEAN_INDEX_SCALE"), (9, u "LOG2_ARRAY_BYTE_INDEX_SCALE"), (5, u "LOG2_ARRAY_CHAR_INDEX_SCALE"), (5, u "LOG2_ARRAY_SHORT_INDEX_SCALE"), (18, u "LOG2_ARRAY_FLOAT_INDEX_SCALE"), (24, u "LOG2_ARRAY_DOUBLE_INDEX_SCALE"), (89, u "T_BOOLEAN"), (2, u "T_CHAR"), (1, u "T_FLOAT"), (1, u "T_DOUBLE"), (1, u "T_BYTE"), (1, u "T_SHORT"), (1, u "T_INT"), (1, u "T_LONG"), (1, u "SOFT_MAX_ARRAY_LENGTH")] 83

def k13m0 : Method := { name := "<init>", desc := "()V", sig := { parameters := [], returnType := none }, accessFlags := 2, code := none }
/-- jdk/internal/util/ArraysSupport -/
def k13 : Class := { plain "jdk/internal/util/ArraysSupport" (some 0) with
  accessFlags := 33
  interfaces := #[]
  cf := some (fileOf pool13 21 #[] #[{ accessFlags := 2, nameIndex := 9, descriptorIndex := 19, attributes := #[] }] 33 16 #[] #[{ accessFlags := 24, nameIndex := 28, descriptorIndex := 29, attributes := #[] }, { accessFlags := 26, nameIndex := 38, descriptorIndex := 39, attributes := #[] }, { accessFlags := 25, nameIndex := 121, descriptorIndex := 25, attributes := #[] }, { accessFlags := 25, nameIndex := 131, descriptorIndex := 25, attributes := #[] }, { accessFlags := 25, nameIndex := 137, descriptorIndex := 25, attributes := #[] }, { accessFlags := 25, nameIndex := 143, descriptorIndex := 25, attributes := #[] }, { accessFlags := 25, nameIndex := 53, descriptorIndex := 25, attributes := #[] }, { accessFlags := 25, nameIndex := 24, descriptorIndex := 25, attributes := #[] }, { accessFlags := 25, nameIndex := 162, descriptorIndex := 25, attributes := #[] }, { accessFlags := 25, nameIndex := 187, descriptorIndex := 25, attributes := #[] }, { accessFlags := 26, nameIndex := 48, descriptorIndex := 25, attributes := #[] }, { accessFlags := 25, nameIndex := 277, descriptorIndex := 25, attributes := #[] }, { accessFlags := 25, nameIndex := 280, descriptorIndex := 25, attributes := #[] }, { accessFlags := 25, nameIndex := 282, descriptorIndex := 25, attributes := #[] }, { accessFlags := 25, nameIndex := 284, descriptorIndex := 25, attributes := #[] }, { accessFlags := 25, nameIndex := 286, descriptorIndex := 25, attributes := #[] }, { accessFlags := 25, nameIndex := 288, descriptorIndex := 25, attributes := #[] }, { accessFlags := 25, nameIndex := 290, descriptorIndex := 25, attributes := #[] }, { accessFlags := 25, nameIndex := 292, descriptorIndex := 25, attributes := #[] }, { accessFlags := 26, nameIndex := 108, descriptorIndex := 109, attributes := #[] }, { accessFlags := 25, nameIndex := 294, descriptorIndex := 25, attributes := #[] }])
  fields := #[{ name := "U", type := (.object "jdk/internal/misc/Unsafe"), accessFlags := 24, slot := 0, constantValue := 0 }, { name := "BIG_ENDIAN", type := .boolean, accessFlags := 26, slot := 1, constantValue := 0 }, { name := "LOG2_ARRAY_BOOLEAN_INDEX_SCALE", type := .int, accessFlags := 25, slot := 2, constantValue := 0 }, { name := "LOG2_ARRAY_BYTE_INDEX_SCALE", type := .int, accessFlags := 25, slot := 3, constantValue := 0 }, { name := "LOG2_ARRAY_CHAR_INDEX_SCALE", type := .int, accessFlags := 25, slot := 4, constantValue := 0 }, { name := "LOG2_ARRAY_SHORT_INDEX_SCALE", type := .int, accessFlags := 25, slot := 5, constantValue := 0 }, { name := "LOG2_ARRAY_INT_INDEX_SCALE", type := .int, accessFlags := 25, slot := 6, constantValue := 0 }, { name := "LOG2_ARRAY_LONG_INDEX_SCALE", type := .int, accessFlags := 25, slot := 7, constantValue := 0 }, { name := "LOG2_ARRAY_FLOAT_INDEX_SCALE", type := .int, accessFlags := 25, slot := 8, constantValue := 0 }, { name := "LOG2_ARRAY_DOUBLE_INDEX_SCALE", type := .int, accessFlags := 25, slot := 9, constantValue := 0 }, { name := "LOG2_BYTE_BIT_SIZE", type := .int, accessFlags := 26, slot := 10, constantValue := 0 }, { name := "T_BOOLEAN", type := .int, accessFlags := 25, slot := 11, constantValue := 0 }, { name := "T_CHAR", type := .int, accessFlags := 25, slot := 12, constantValue := 0 }, { name := "T_FLOAT", type := .int, accessFlags := 25, slot := 13, constantValue := 0 }, { name := "T_DOUBLE", type := .int, accessFlags := 25, slot := 14, constantValue := 0 }, { name := "T_BYTE", type := .int, accessFlags := 25, slot := 15, constantValue := 0 }, { name := "T_SHORT", type := .int, accessFlags := 25, slot := 16, constantValue := 0 }, { name := "T_INT", type := .int, accessFlags := 25, slot := 17, constantValue := 0 }, { name := "T_LONG", type := .int, accessFlags := 25, slot := 18, constantValue := 0 }, { name := "JLA", type := (.object "jdk/internal/access/JavaLangAccess"), accessFlags := 26, slot := 19, constantValue := 0 }, { name := "SOFT_MAX_ARRAY_LENGTH", type := .int, accessFlags := 25, slot := 20, constantValue := 0 }]
  methods := #[k13m0]
  instanceTypes := #[]
  staticTypes := #[(.object "jdk/internal/misc/Unsafe"), .boolean, .int, .int, .int, .int, .int, .int, .int, .int, .int, .int, .int, .int, .int, .int, .int, .int, .int, (.object "jdk/internal/access/JavaLangAccess"), .int]
  resolved := Array.replicate 378 none
  statics := none }

def pool14 : Array CpInfo := pool [(1, u "java/lang/Cloneable"), (0, .class_ 1), (0, u "java/lang/Object"), (0, .class_ 3)] 3

/-- java/lang/Cloneable -/
def k14 : Class := { plain "java/lang/Cloneable" (some 0) with
  accessFlags := 1537
  interfaces := #[]
  cf := some (fileOf pool14 2 #[] #[] 1537 4 #[] #[])
  fields := #[]
  methods := #[]
  instanceTypes := #[]
  staticTypes := #[]
  resolved := Array.replicate 8 none
  statics := none }

/-- the primitive byte -/
def k15 : Class := { plain "byte" none with kind := .primitive 'B', accessFlags := 0x411 }
/-- [B -/
def k16 : Class := { plain "[B" (some 0) with kind := .array 15 .byte, interfaces := #[14, 2], accessFlags := 1041 }

/-- the primitive char -/
def k17 : Class := { plain "char" none with kind := .primitive 'C', accessFlags := 0x411 }
/-- [C -/
def k18 : Class := { plain "[C" (some 0) with kind := .array 17 .char, interfaces := #[14, 2], accessFlags := 1041 }

/-- the primitive int -/
def k19 : Class := { plain "int" none with kind := .primitive 'I', accessFlags := 0x411 }
/-- [I -/
def k20 : Class := { plain "[I" (some 0) with kind := .array 19 .int, interfaces := #[14, 2], accessFlags := 1041 }

def heap : Heap := #[{ cls := 7, slots := #[.long 0, .int 1, .null, .int 0, .null, .int 0, .int 0], vm := .statics 7 },
  { cls := 12, slots := #[.null, .null, .null], vm := .statics 12 }]
def classes : Array Class := #[k0, k1, k2, k3, k4, k5, k6, k7, k8, k9, k10, k11, k12, k13, k14, k15, k16, k17, k18, k19, k20]
def interned : List (Array UInt16 × Addr) := []
def slotsUsed : Nat := 10
def theMethod : MethodId := ⟨1, 2⟩
def args0 : Array Value := #[.int 5, .int 7, .int 3, .int 2]
def aboutOver (below : List Frame) : State where
  vm := { classes := classes, interned := interned.toArray }
  heap := heap
  slotsUsed := slotsUsed
  threads := #[{ frames := .invoking theMethod args0 :: below }]
def below0 : List Frame := [.native { method := ⟨0, 0⟩, args := #[] }]
def about1 : State := aboutOver below0
def p0 : Program := .bare "" "" ""
def e0 : Env := launch0.env 0 0 0
theorem w_frames : about1.frames = Frame.invoking theMethod args0 :: below0 := rfl
set_option maxRecDepth 65536 in
theorem w_args : argsFit about1.vm theMethod args0 = true := by decide +kernel
set_option maxRecDepth 65536 in
theorem w_heap : heapFits about1 = true := by decide +kernel
set_option maxRecDepth 65536 in
theorem w_runnable : about1.curStatus? = some .runnable := by decide +kernel
set_option maxRecDepth 65536 in
theorem w_alone : about1.alone = true := by decide +kernel
set_option maxRecDepth 65536 in
theorem w_named : about1.methodNamed? x = some theMethod := by decide +kernel
set_option maxRecDepth 65536 in
theorem w_hears : about1.hears theMethod below0 = true := by decide +kernel
set_option maxRecDepth 65536 in
theorem w_ripe : about1.ripe theMethod args0 below0 = true := by decide +kernel
theorem w_running : about1.status = .running := rfl
set_option maxRecDepth 65536 in
theorem w_room : about1.hasRoom e0.platform room_1 = true :=
  launch0.hasRoom_least _ room_1 (by decide +kernel) (by decide +kernel) (by decide +kernel) (by decide +kernel) (by decide +kernel) (by decide +kernel)
theorem allAtoms_all (ts : List Jvm.Cond) (a : Array Jvm.Value) (st : Jvm.State) : (allAtoms ts).before a st = ts.all (fun c => c.before a st) := by
  induction ts with
  | nil => rfl
  | cons c t ih =>
    show (Jvm.Cond.and c (allAtoms t)).before a st = _
    rw [Jvm.Cond.before_and, ih, List.all_cons]
def words1 : List Jvm.Cond := Jvm.Cond.code x code maxLocals ret :: tables_1
/-- a 'code' word, met by the world's own term for the bytes: nothing is compared byte by byte -/
theorem code_word {y : MethodName} {bytes : ByteArray} {mx : Nat} {rt : Option FieldType} {a : Array Value} {s : State} {m : MethodId} {meth : Method} {c : Code} (h1 : s.methodNamed? y = some m) (h2 : s.vm.method? m = some meth) (h3 : meth.code = some c) (h4 : c.code = bytes)
    (h5 : (c.maxLocals == mx && c.exceptionTable.isEmpty && decide (c.maxStack ≤ mostOperands) && decide (meth.sig.returnType = rt) && !meth.locks && decide (parseMethodDescriptor y.desc = some meth.sig)) = true) : (Jvm.Cond.code y bytes mx rt).before a s = true := by
  simp only [Bool.and_eq_true, beq_iff_eq, Bool.not_eq_true', decide_eq_true_eq] at h5
  obtain ⟨⟨⟨⟨⟨g1, g2⟩, g3⟩, g4⟩, g5⟩, g6⟩ := h5
  simp [Cond.before, Cond.holds, Cond.value, h1, h2, h3, h4, g1, g2, g3, g4, g5, g6]
def isCode : Jvm.Cond → Bool
  | .code _ _ _ _ => true
  | _ => false
theorem all_split {L : List Jvm.Cond} {P : Jvm.Cond → Bool} (h1 : L.all (fun c => isCode c || P c) = true) (h2 : ∀ c ∈ L.filter isCode, P c = true) : L.all P = true := by
  refine List.all_eq_true.mpr fun c hc => ?_
  have h := List.all_eq_true.mp h1 c hc
  rcases Bool.eq_false_or_eq_true (isCode c) with hi | hi
  · exact h2 c (List.mem_filter.mpr ⟨hc, hi⟩)
  · simpa [hi] using h
set_option maxRecDepth 65536 in
theorem w_c0 : (Jvm.Cond.code x code maxLocals ret).before args0 about1 = true := code_word (m := ⟨1, 2⟩) (meth := k1m2) (c := k1c2) (by decide +kernel) rfl rfl rfl (by decide +kernel)
set_option maxRecDepth 65536 in
theorem w_c1 : (Jvm.Cond.code ({ cls := "com/example/user_data_sweeper/userdatasweeper/OptionIsFlagPinLaw", name := "draw", desc := "(I)Ljava/lang/String;" } : Jvm.MethodName) method_2_code (4 : Nat) (Option.some (Jvm.ClassFile.FieldType.object "java/lang/String"))).before args0 about1 = true := code_word (m := ⟨1, 1⟩) (meth := k1m1) (c := k1c1) (by decide +kernel) rfl rfl rfl (by decide +kernel)
set_option maxRecDepth 65536 in
theorem w_c2 : (Jvm.Cond.code ({ cls := "java/lang/String", name := "<init>", desc := "([C)V" } : Jvm.MethodName) jdk_42_method_3_code (2 : Nat) (Option.none : Option Jvm.ClassFile.FieldType)).before args0 about1 = true := code_word (m := ⟨7, 1⟩) (meth := k7m1) (c := k7c1) (by decide +kernel) rfl rfl rfl (by decide +kernel)
set_option maxRecDepth 65536 in
theorem w_c3 : (Jvm.Cond.code ({ cls := "java/lang/String", name := "<init>", desc := "([CIILjava/lang/Void;)V" } : Jvm.MethodName) jdk_42_method_149_code (6 : Nat) (Option.none : Option Jvm.ClassFile.FieldType)).before args0 about1 = true := code_word (m := ⟨7, 3⟩) (meth := k7m3) (c := k7c3) (by decide +kernel) rfl rfl rfl (by decide +kernel)
set_option maxRecDepth 65536 in
theorem w_c4 : (Jvm.Cond.code ({ cls := "java/lang/Object", name := "<init>", desc := "()V" } : Jvm.MethodName) object_method_1_code (1 : Nat) (Option.none : Option Jvm.ClassFile.FieldType)).before args0 about1 = true := code_word (m := ⟨0, 0⟩) (meth := k0m0) (c := k0c0) (by decide +kernel) rfl rfl rfl (by decide +kernel)
set_option maxRecDepth 65536 in
theorem w_c5 : (Jvm.Cond.code ({ cls := "com/example/user_data_sweeper/userdatasweeper/Option", name := "<init>", desc := "(Ljava/lang/String;Ljava/lang/String;Ljava/lang/String;ZZ)V" } : Jvm.MethodName) prog_20_method_1_code (6 : Nat) (Option.none : Option Jvm.ClassFile.FieldType)).before args0 about1 = true := code_word (m := ⟨9, 0⟩) (meth := k9m0) (c := k9c0) (by decide +kernel) rfl rfl rfl (by decide +kernel)
set_option maxRecDepth 65536 in
theorem w_c6 : (Jvm.Cond.code ({ cls := "java/lang/Record", name := "<init>", desc := "()V" } : Jvm.MethodName) jdk_30_method_1_code (1 : Nat) (Option.none : Option Jvm.ClassFile.FieldType)).before args0 about1 = true := code_word (m := ⟨8, 0⟩) (meth := k8m0) (c := k8c0) (by decide +kernel) rfl rfl rfl (by decide +kernel)
set_option maxRecDepth 65536 in
theorem w_c7 : (Jvm.Cond.code ({ cls := "com/example/user_data_sweeper/userdatasweeper/Option", name := "flag", desc := "(Ljava/lang/String;Ljava/lang/String;)Lcom/example/user_data_sweeper/userdatasweeper/Option;" } : Jvm.MethodName) prog_20_method_5_code (2 : Nat) (Option.some (Jvm.ClassFile.FieldType.object "com/example/user_data_sweeper/userdatasweeper/Option"))).before args0 about1 = true := code_word (m := ⟨9, 1⟩) (meth := k9m1) (c := k9c1) (by decide +kernel) rfl rfl rfl (by decide +kernel)
set_option maxRecDepth 65536 in
theorem w_c8 : (Jvm.Cond.code ({ cls := "com/example/user_data_sweeper/userdatasweeper/Option", name := "isFlag", desc := "()Z" } : Jvm.MethodName) prog_20_method_6_code (1 : Nat) (Option.some Jvm.ClassFile.FieldType.boolean)).before args0 about1 = true := code_word (m := ⟨9, 2⟩) (meth := k9m2) (c := k9c2) (by decide +kernel) rfl rfl rfl (by decide +kernel)
set_option maxRecDepth 65536 in
theorem w_c9 : (Jvm.Cond.code ({ cls := "java/lang/StringUTF16", name := "compress", desc := "([CII)[B" } : Jvm.MethodName) jdk_52_method_16_code (6 : Nat) (Option.some (Jvm.ClassFile.FieldType.array Jvm.ClassFile.FieldType.byte))).before args0 about1 = true := code_word (m := ⟨10, 2⟩) (meth := k10m2) (c := k10c2) (by decide +kernel) rfl rfl rfl (by decide +kernel)
set_option maxRecDepth 65536 in
theorem w_c10 : (Jvm.Cond.code ({ cls := "java/lang/StringUTF16", name := "compress", desc := "([CI[BII)I" } : Jvm.MethodName) jdk_52_method_21_code (7 : Nat) (Option.some Jvm.ClassFile.FieldType.int)).before args0 about1 = true := code_word (m := ⟨10, 3⟩) (meth := k10m3) (c := k10c3) (by decide +kernel) rfl rfl rfl (by decide +kernel)
set_option maxRecDepth 65536 in
theorem w_c11 : (Jvm.Cond.code ({ cls := "java/lang/StringUTF16", name := "coderFromArrayLen", desc := "([BI)B" } : Jvm.MethodName) jdk_52_method_15_code (2 : Nat) (Option.some Jvm.ClassFile.FieldType.byte)).before args0 about1 = true := code_word (m := ⟨10, 1⟩) (meth := k10m1) (c := k10c1) (by decide +kernel) rfl rfl rfl (by decide +kernel)
set_option maxRecDepth 65536 in
theorem w_c12 : (Jvm.Cond.code ({ cls := "java/lang/String", name := "valueOf", desc := "(C)Ljava/lang/String;" } : Jvm.MethodName) jdk_42_method_139_code (1 : Nat) (Option.some (Jvm.ClassFile.FieldType.object "java/lang/String"))).before args0 about1 = true := code_word (m := ⟨7, 2⟩) (meth := k7m2) (c := k7c2) (by decide +kernel) rfl rfl rfl (by decide +kernel)
set_option maxRecDepth 65536 in
theorem w_c13 : (Jvm.Cond.code ({ cls := "java/lang/StringLatin1", name := "canEncode", desc := "(C)Z" } : Jvm.MethodName) jdk_43_method_3_code (1 : Nat) (Option.some Jvm.ClassFile.FieldType.boolean)).before args0 about1 = true := code_word (m := ⟨11, 1⟩) (meth := k11m1) (c := k11c1) (by decide +kernel) rfl rfl rfl (by decide +kernel)
set_option maxRecDepth 65536 in
theorem w_c14 : (Jvm.Cond.code ({ cls := "java/lang/StringLatin1", name := "toBytes", desc := "(C)[B" } : Jvm.MethodName) jdk_43_method_46_code (1 : Nat) (Option.some (Jvm.ClassFile.FieldType.array Jvm.ClassFile.FieldType.byte))).before args0 about1 = true := code_word (m := ⟨11, 2⟩) (meth := k11m2) (c := k11c2) (by decide +kernel) rfl rfl rfl (by decide +kernel)
set_option maxRecDepth 65536 in
theorem w_c15 : (Jvm.Cond.code ({ cls := "java/lang/String", name := "<init>", desc := "([BB)V" } : Jvm.MethodName) jdk_42_method_151_code (3 : Nat) (Option.none : Option Jvm.ClassFile.FieldType)).before args0 about1 = true := code_word (m := ⟨7, 4⟩) (meth := k7m4) (c := k7c4) (by decide +kernel) rfl rfl rfl (by decide +kernel)
def codes1 : List Jvm.Cond := [Jvm.Cond.code x code maxLocals ret, Jvm.Cond.code ({ cls := "com/example/user_data_sweeper/userdatasweeper/OptionIsFlagPinLaw", name := "draw", desc := "(I)Ljava/lang/String;" } : Jvm.MethodName) method_2_code (4 : Nat) (Option.some (Jvm.ClassFile.FieldType.object "java/lang/String")), Jvm.Cond.code ({ cls := "java/lang/String", name := "<init>", desc := "([C)V" } : Jvm.MethodName) jdk_42_method_3_code (2 : Nat) (Option.none : Option Jvm.ClassFile.FieldType), Jvm.Cond.code ({ cls := "java/lang/String", name := "<init>", desc := "([CIILjava/lang/Void;)V" } : Jvm.MethodName) jdk_42_method_149_code (6 : Nat) (Option.none : Option Jvm.ClassFile.FieldType), Jvm.Cond.code ({ cls := "java/lang/Object", name := "<init>", desc := "()V" } : Jvm.MethodName) object_method_1_code (1 : Nat) (Option.none : Option Jvm.ClassFile.FieldType), Jvm.Cond.code ({ cls := "com/example/user_data_sweeper/userdatasweeper/Option", name := "<init>", desc := "(Ljava/lang/String;Ljava/lang/String;Ljava/lang/String;ZZ)V" } : Jvm.MethodName) prog_20_method_1_code (6 : Nat) (Option.none : Option Jvm.ClassFile.FieldType), Jvm.Cond.code ({ cls := "java/lang/Record", name := "<init>", desc := "()V" } : Jvm.MethodName) jdk_30_method_1_code (1 : Nat) (Option.none : Option Jvm.ClassFile.FieldType), Jvm.Cond.code ({ cls := "com/example/user_data_sweeper/userdatasweeper/Option", name := "flag", desc := "(Ljava/lang/String;Ljava/lang/String;)Lcom/example/user_data_sweeper/userdatasweeper/Option;" } : Jvm.MethodName) prog_20_method_5_code (2 : Nat) (Option.some (Jvm.ClassFile.FieldType.object "com/example/user_data_sweeper/userdatasweeper/Option")), Jvm.Cond.code ({ cls := "com/example/user_data_sweeper/userdatasweeper/Option", name := "isFlag", desc := "()Z" } : Jvm.MethodName) prog_20_method_6_code (1 : Nat) (Option.some Jvm.ClassFile.FieldType.boolean), Jvm.Cond.code ({ cls := "java/lang/StringUTF16", name := "compress", desc := "([CII)[B" } : Jvm.MethodName) jdk_52_method_16_code (6 : Nat) (Option.some (Jvm.ClassFile.FieldType.array Jvm.ClassFile.FieldType.byte)), Jvm.Cond.code ({ cls := "java/lang/StringUTF16", name := "compress", desc := "([CI[BII)I" } : Jvm.MethodName) jdk_52_method_21_code (7 : Nat) (Option.some Jvm.ClassFile.FieldType.int), Jvm.Cond.code ({ cls := "java/lang/StringUTF16", name := "coderFromArrayLen", desc := "([BI)B" } : Jvm.MethodName) jdk_52_method_15_code (2 : Nat) (Option.some Jvm.ClassFile.FieldType.byte), Jvm.Cond.code ({ cls := "java/lang/String", name := "valueOf", desc := "(C)Ljava/lang/String;" } : Jvm.MethodName) jdk_42_method_139_code (1 : Nat) (Option.some (Jvm.ClassFile.FieldType.object "java/lang/String")), Jvm.Cond.code ({ cls := "java/lang/StringLatin1", name := "canEncode", desc := "(C)Z" } : Jvm.MethodName) jdk_43_method_3_code (1 : Nat) (Option.some Jvm.ClassFile.FieldType.boolean), Jvm.Cond.code ({ cls := "java/lang/StringLatin1", name := "toBytes", desc := "(C)[B" } : Jvm.MethodName) jdk_43_method_46_code (1 : Nat) (Option.some (Jvm.ClassFile.FieldType.array Jvm.ClassFile.FieldType.byte)), Jvm.Cond.code ({ cls := "java/lang/String", name := "<init>", desc := "([BB)V" } : Jvm.MethodName) jdk_42_method_151_code (3 : Nat) (Option.none : Option Jvm.ClassFile.FieldType)]
set_option maxRecDepth 65536 in
theorem codes_eq : words1.filter isCode = codes1 := rfl
theorem w_codes : ∀ c ∈ words1.filter isCode, c.before args0 about1 = true := by
  rw [codes_eq]
  intro c hc
  simp only [codes1, List.mem_cons, List.not_mem_nil, or_false] at hc
  rcases hc with rfl | rfl | rfl | rfl | rfl | rfl | rfl | rfl | rfl | rfl | rfl | rfl | rfl | rfl | rfl | rfl
  · exact w_c0
  · exact w_c1
  · exact w_c2
  · exact w_c3
  · exact w_c4
  · exact w_c5
  · exact w_c6
  · exact w_c7
  · exact w_c8
  · exact w_c9
  · exact w_c10
  · exact w_c11
  · exact w_c12
  · exact w_c13
  · exact w_c14
  · exact w_c15
set_option maxRecDepth 65536 in
theorem w_t1 : (words1.take 24).all (fun c => isCode c || c.before args0 about1) = true := by decide +kernel
set_option maxRecDepth 65536 in
theorem w_t2 : ((words1.drop 24).take 24).all (fun c => isCode c || c.before args0 about1) = true := by decide +kernel
set_option maxRecDepth 65536 in
theorem w_t3 : (((words1.drop 24).drop 24).take 24).all (fun c => isCode c || c.before args0 about1) = true := by decide +kernel
set_option maxRecDepth 65536 in
theorem w_t4 : (((words1.drop 24).drop 24).drop 24).all (fun c => isCode c || c.before args0 about1) = true := by decide +kernel
theorem w_tables : (allAtoms (Jvm.Cond.code x code maxLocals ret :: tables_1)).before args0 about1 = true := by
  rw [allAtoms_all]
  show words1.all (fun c => c.before args0 about1) = true
  refine all_split ?_ w_codes
  rw [← List.take_append_drop 24 words1, List.all_append, w_t1, ← List.take_append_drop 24 (words1.drop 24), List.all_append, w_t2, ← List.take_append_drop 24 ((words1.drop 24).drop 24), List.all_append, w_t3, w_t4]
  rfl
set_option maxRecDepth 65536 in
theorem w_rest : rest_1_c.before args0 about1 = true := by decide +kernel
set_option maxRecDepth 65536 in
theorem w_case : (Jvm.Cond.and given_1 narrow_1).before args0 about1 = true := by decide +kernel
set_option maxRecDepth 65536 in
theorem w_consts : constsHeld consts_1 about1 := Jvm.Lit.constsHeldB_iff.mp (by decide +kernel)
theorem w_applies : (headSpec (Jvm.Cond.code x code maxLocals ret :: tables_1) room_1).applies x e0.platform about1 = true :=
  (Spec.applies_iff w_frames).mpr ⟨w_running, w_runnable, w_alone, w_named, w_hears, w_ripe, w_room, w_tables⟩
theorem atStart : AtStart classFile x code maxLocals ret World_1 tables_1 room_1 Calls_1 rest_1 Pre_1 launch0 p0 e0 about1 theMethod args0 below0 :=
  ⟨lists_1, trivial, launch0.admits_env _ _ _, launch0.least_env, fairChoices_fair.cas, fairChoices_fair.clock, w_frames, w_args, w_heap, w_applies, ⟨w_consts, trivial⟩, w_rest, w_case⟩
end start1
theorem witness_1 : WitnessClaimed_1 := ⟨start1.p0, start1.e0, start1.about1, start1.theMethod, start1.args0, start1.below0, start1.atStart⟩
end Jvm.Pilot.@@N@@
