import JvmDerived
import JvmDerived.Pilot.@@N@@Statement
import JvmDerived.Pilot.@@N@@Code
set_option linter.unusedVariables false
set_option linter.unusedSimpArgs false
namespace Jvm.Own
open Jvm Sem ClassFile Op Lib Jvm.Free Jvm.Stand Jvm.LawKit Jvm.RoadKit Bundle
/-! The walker's core: a walk's goal as 'Run', where it stands as 'Pos', a callee as 'Con'; one law a step, the rest of the walk handed in last. -/
abbrev fr (m : MethodId) (pc : Nat) (L : List Slot) (S : List Value) : JFrame := mkF m pc ⟨L⟩ S
abbrev c16 (x : Int32) : Int32 := x.toUInt32.toUInt16.toUInt32.toInt32
def Run (tb : Tables) (e : Env) (below : List Frame) (F : State → Outcome → Prop) (T : State) (g : JFrame) : Prop := ∃ t o, Steps tb e below (T.setTop g) t ∧ F t o
section Basics
variable {tb : Tables} {e : Env} {below : List Frame} {F : State → Outcome → Prop} {T T' : State} {g g' : JFrame}
theorem Run.go (st : ∀ target, Steps tb e below (T'.setTop g') target → Steps tb e below (T.setTop g) target) (r : Run tb e below F T' g') : Run tb e below F T g := by
  obtain ⟨t, o, h1, h2⟩ := r; exact ⟨t, o, st _ h1, h2⟩
theorem Run.after (st : Steps tb e below (T.setTop g) (T'.setTop g')) (r : Run tb e below F T' g') : Run tb e below F T g := by
  obtain ⟨t, o, h1, h2⟩ := r; exact ⟨t, o, st.trans h1, h2⟩
theorem Run.cast (q : g = g') (r : Run tb e below F T g') : Run tb e below F T g := q ▸ r
end Basics
/-! ### plain instructions, many at once -/
def lget : List Slot → Nat → Option Slot
  | [], _ => none
  | a :: _, 0 => some a
  | _ :: r, n + 1 => lget r n
def lset : List Slot → Nat → Slot → List Slot
  | [], _, _ => []
  | _ :: r, 0, x => x :: r
  | a :: r, n + 1, x => a :: lset r n x
theorem lget_eq : ∀ (L : List Slot) (i : Nat), (⟨L⟩ : Array Slot)[i]? = lget L i
  | [], _ => rfl
  | _ :: _, 0 => rfl
  | _ :: r, n + 1 => by
    have := lget_eq r n
    simp only [List.getElem?_toArray] at this ⊢
    simpa [lget] using this
theorem lset_eq : ∀ (L : List Slot) (i : Nat) (x : Slot), (⟨L⟩ : Array Slot).setIfInBounds i x = ⟨lset L i x⟩
  | [], _, _ => by simp [lset]
  | _ :: _, 0, _ => by simp [lset]
  | _ :: r, n + 1, x => by
    have := lset_eq r n x
    simp only [List.setIfInBounds_toArray, List.set_cons_succ, lset] at this ⊢
    have h2 : r.set n x = lset r n x := by injection this
    rw [h2]
theorem lset_len : ∀ (L : List Slot) (i : Nat) (x : Slot), (lset L i x).length = L.length
  | [], _, _ => rfl
  | _ :: _, 0, _ => rfl
  | _ :: r, n + 1, x => by simp [lset, lset_len r n x]
def one (o : Option Slot) : Bool := match o with
  | some .unset => true
  | some (.val (.int _)) => true
  | some (.val (.ref _)) => true
  | some (.val .null) => true
  | _ => false
def ldI (o : Option Slot) (L : List Slot) (S : List Value) : Option (List Slot × List Value) := match o with
  | some (.val (.int v)) => some (L, .int v :: S)
  | _ => none
def ldJ (o : Option Slot) (L : List Slot) (S : List Value) : Option (List Slot × List Value) := match o with
  | some (.val (.long v)) => some (L, .long v :: S)
  | _ => none
def ldA (o : Option Slot) (L : List Slot) (S : List Value) : Option (List Slot × List Value) := match o with
  | some (.val (.ref v)) => some (L, .ref v :: S)
  | some (.val .null) => some (L, .null :: S)
  | _ => none
def op2 (f : Int32 → Int32 → Int32) (L : List Slot) (S : List Value) : Option (List Slot × List Value) := match S with
  | .int y :: .int x :: S => some (L, .int (f x y) :: S)
  | _ => none
def op1 (f : Int32 → Int32) (L : List Slot) (S : List Value) : Option (List Slot × List Value) := match S with
  | .int x :: S => some (L, .int (f x) :: S)
  | _ => none
def opJ (f : Int64 → Int64 → Int64) (L : List Slot) (S : List Value) : Option (List Slot × List Value) := match S with
  | .long y :: .long x :: S => some (L, .long (f x y) :: S)
  | _ => none
def opJI (f : Int64 → Int32 → Int64) (L : List Slot) (S : List Value) : Option (List Slot × List Value) := match S with
  | .int y :: .long x :: S => some (L, .long (f x y) :: S)
  | _ => none
def opJ1 (f : Int64 → Int32) (L : List Slot) (S : List Value) : Option (List Slot × List Value) := match S with
  | .long x :: S => some (L, .int (f x) :: S)
  | _ => none
def dupS (L : List Slot) (S : List Value) : Option (List Slot × List Value) := match S with
  | .int x :: S => some (L, .int x :: .int x :: S)
  | .ref x :: S => some (L, .ref x :: .ref x :: S)
  | .null :: S => some (L, .null :: .null :: S)
  | _ => none
def popS (L : List Slot) (S : List Value) : Option (List Slot × List Value) := match S with
  | .int _ :: S => some (L, S)
  | .ref _ :: S => some (L, S)
  | .null :: S => some (L, S)
  | _ => none
def stI (k : Nat) (L : List Slot) (S : List Value) : Option (List Slot × List Value) := match S with
  | .int x :: S => if one (lget L k) then some (lset L k (.val (.int x)), S) else none
  | _ => none
def stA (k : Nat) (L : List Slot) (S : List Value) : Option (List Slot × List Value) := match S with
  | .ref x :: S => if one (lget L k) then some (lset L k (.val (.ref x)), S) else none
  | .null :: S => if one (lget L k) then some (lset L k (.val .null), S) else none
  | _ => none
def stJ (k : Nat) (L : List Slot) (S : List Value) : Option (List Slot × List Value) := match S with
  | .long x :: S => if one (lget L k) && one (lget L (k + 1)) then some (lset (lset L k (.val (.long x))) (k + 1) .second, S) else none
  | _ => none
def inc (k : Nat) (c : Int) (L : List Slot) (S : List Value) : Option (List Slot × List Value) := match lget L k with
  | some (.val (.int x)) => some (lset L k (.val (.int (x + Int32.ofInt c))), S)
  | _ => none
/-- what a plain instruction makes of the locals and the stack -/
def pst (i : Instr) (L : List Slot) (S : List Value) : Option (List Slot × List Value) := match i with
  | .iload_n k => ldI (lget L k.val) L S
  | .iload k => ldI (lget L k) L S
  | .lload_n k => ldJ (lget L k.val) L S
  | .lload k => ldJ (lget L k) L S
  | .aload_n k => ldA (lget L k.val) L S
  | .aload k => ldA (lget L k) L S
  | .iconst i => some (L, .int (Int32.ofInt i) :: S)
  | .bipush i => some (L, .int (Int8.ofInt i).toInt32 :: S)
  | .sipush i => some (L, .int (Int16.ofInt i).toInt32 :: S)
  | .aconst_null => some (L, .null :: S)
  | .dup => dupS L S
  | .pop => popS L S
  | .iadd => op2 (· + ·) L S
  | .isub => op2 (· - ·) L S
  | .iand => op2 (· &&& ·) L S
  | .ior => op2 (· ||| ·) L S
  | .ishl => op2 (fun x y => x <<< (y &&& 31)) L S
  | .ishr => op2 (fun x y => x >>> (y &&& 31)) L S
  | .iushr => op2 XT.ushr L S
  | .i2c => op1 c16 L S
  | .i2b => op1 (fun x => x.toInt8.toInt32) L S
  | .l2i => opJ1 (fun x => x.toInt32) L S
  | .land => opJ (· &&& ·) L S
  | .lushr => opJI XT.ushrL L S
  | .istore k => stI k L S
  | .istore_n k => stI k.val L S
  | .astore k => stA k L S
  | .astore_n k => stA k.val L S
  | .lstore k => stJ k L S
  | .lstore_n k => stJ k.val L S
  | .iinc k c => inc k c L S
  | _ => none
def plen (i : Instr) : Nat := match i with
  | .iload _ => 2
  | .lload _ => 2
  | .aload _ => 2
  | .istore _ => 2
  | .lstore _ => 2
  | .astore _ => 2
  | .bipush _ => 2
  | .sipush _ => 3
  | .iinc _ _ => 3
  | _ => 1
def prun : List Instr → Nat → List Slot → List Value → Option (Nat × List Slot × List Value)
  | [], pc, L, S => some (pc, L, S)
  | i :: r, pc, L, S => match pst i L S with
    | some (L', S') => prun r (pc + plen i) L' S'
    | none => none
def decs (b : ByteArray) : Nat → List Instr → Bool
  | _, [] => true
  | pc, i :: r => decide (decode b pc = .ok (i, plen i)) && decs b (pc + plen i) r
section Plain
variable {tb : Tables} [Ours tb] {e : Env} {below : List Frame} {T target : State} {m : MethodId} {c : Code} {pc : Nat} {L L' : List Slot} {S S' : List Value}
theorem one_spec {l : List Slot} {k : Nat} (h : one (lget l k) = true) : ∃ o, (⟨l⟩ : Array Slot)[k]? = some o ∧ (o = .unset ∨ ∃ w, o = .val w ∧ w.category = 1) := by
  rw [lget_eq]
  cases hq : lget l k with
  | none => rw [hq] at h; cases h
  | some o =>
    rw [hq] at h
    refine ⟨o, rfl, ?_⟩
    cases o with
    | unset => exact Or.inl rfl
    | second => cases h
    | val w => cases w <;> first | exact Or.inr ⟨_, rfl, rfl⟩ | cases h
theorem one_store {l : List Slot} {k : Nat} {v : Value} (h : one (lget l k) = true) (hv : v.category = 1) : storeLocals ⟨l⟩ k v = some ⟨lset l k (.val v)⟩ := by
  obtain ⟨o, h1, h2⟩ := one_spec h
  rw [XS.store1 h1 h2 hv, lset_eq]
theorem lget_lset_ne : ∀ (l : List Slot) (i j : Nat) (x : Slot), i ≠ j → lget (lset l i x) j = lget l j
  | [], _, _, _, _ => rfl
  | _ :: _, 0, 0, _, h => absurd rfl h
  | _ :: _, 0, _ + 1, _, _ => rfl
  | _ :: _, _ + 1, 0, _, _ => rfl
  | _ :: r, i + 1, j + 1, x, h => lget_lset_ne r i j x (by omega)
theorem two_store {l : List Slot} {k : Nat} {x : Int64} (h : one (lget l k) = true) (h' : one (lget l (k + 1)) = true) : storeLocals ⟨l⟩ k (.long x) = some ⟨lset (lset l k (.val (.long x))) (k + 1) .second⟩ := by
  obtain ⟨o, h1, h2⟩ := one_spec h
  obtain ⟨o', g1, g2⟩ := one_spec h'
  have hk : k < l.length := by have := (Array.getElem?_eq_some_iff.mp h1).1; simpa using this
  have hk' : k + 1 < l.length := by have := (Array.getElem?_eq_some_iff.mp g1).1; simpa using this
  have g3 : (⟨lset l k (.val (.long x))⟩ : Array Slot)[k + 1]? = some o' := by rw [lget_eq, lget_lset_ne _ _ _ _ (by omega), ← lget_eq]; exact g1
  have s1 : setAt ⟨l⟩ k (.val (.long x)) = some ⟨lset l k (.val (.long x))⟩ := by unfold setAt; rw [if_pos (by simpa using hk), lset_eq]
  have s2 : setAt ⟨lset l k (.val (.long x))⟩ (k + 1) .second = some ⟨lset (lset l k (.val (.long x))) (k + 1) .second⟩ := by unfold setAt; rw [if_pos (by simpa [lset_len] using hk'), lset_eq]
  have s3 : storeSelf ⟨l⟩ k (.long x) = some ⟨lset (lset l k (.val (.long x))) (k + 1) .second⟩ := by
    unfold storeSelf
    simp only [s1, Option.bind_eq_bind, Option.bind_some, show (Value.long x).category = 2 from rfl, if_true, g3]
    rcases g2 with rfl | ⟨w, rfl, hw⟩
    · exact s2
    · simp only [hw, show ¬ (1 : Nat) = 2 by decide, if_false]; exact s2
  unfold storeLocals
  simp only [h1, Option.bind_eq_bind, Option.bind_some]
  rcases h2 with rfl | ⟨w, rfl, hw⟩
  · exact s3
  · simp only [hw, show ¬ (1 : Nat) = 2 by decide, if_false]; exact s3
theorem pst_ok {i : Instr} (h : At T m c below) (hx : tb.exec = Jvm.exec) (hd : decode c.code pc = .ok (i, plen i)) (hp : pst i L S = some (L', S'))
    (r : Steps tb e below (T.setTop (fr m (pc + plen i) L' S')) target) : Steps tb e below (T.setTop (fr m pc L S)) target := by
  unfold pst at hp
  split at hp
  case h_1 k => unfold ldI at hp; split at hp <;> cases hp; rename_i q; exact XS.iloadN h hx rfl hd ((lget_eq _ _).trans q) r
  case h_2 k => unfold ldI at hp; split at hp <;> cases hp; rename_i q; exact XS.iload h hx rfl hd ((lget_eq _ _).trans q) r
  case h_3 k => unfold ldJ at hp; split at hp <;> cases hp; rename_i q; exact XT.lloadN h hx rfl hd ((lget_eq _ _).trans q) r
  case h_4 k => unfold ldJ at hp; split at hp <;> cases hp; rename_i q; exact XT.lload h hx rfl hd ((lget_eq _ _).trans q) r
  case h_5 k => unfold ldA at hp; split at hp <;> cases hp <;> (rename_i q; exact XS.aloadN h hx rfl hd ((lget_eq _ _).trans q) rfl r)
  case h_6 k => unfold ldA at hp; split at hp <;> cases hp <;> (rename_i q; exact XS.aload h hx rfl hd ((lget_eq _ _).trans q) rfl r)
  case h_7 i => cases hp; exact XS.iconst h hx rfl hd r
  case h_8 i => cases hp; exact XS.bipush h hx rfl hd r
  case h_9 i => cases hp; exact XS.sipush h hx rfl hd r
  case h_10 => cases hp; exact XS.aconstNull h hx rfl hd r
  case h_11 => unfold dupS at hp; split at hp <;> cases hp <;> exact XS.dup h hx rfl hd rfl rfl r
  case h_12 => unfold popS at hp; split at hp <;> cases hp <;> exact XT.pop h hx rfl hd rfl rfl r
  case h_13 => unfold op2 at hp; split at hp <;> cases hp; exact XS.iadd h hx rfl hd rfl r
  case h_14 => unfold op2 at hp; split at hp <;> cases hp; exact XS.isub h hx rfl hd rfl r
  case h_15 => unfold op2 at hp; split at hp <;> cases hp; exact XS.iand h hx rfl hd rfl r
  case h_16 => unfold op2 at hp; split at hp <;> cases hp; exact XT.ior h hx rfl hd rfl r
  case h_17 => unfold op2 at hp; split at hp <;> cases hp; exact XT.ishl h hx rfl hd rfl r
  case h_18 => unfold op2 at hp; split at hp <;> cases hp; exact XT.ishr h hx rfl hd rfl r
  case h_19 => unfold op2 at hp; split at hp <;> cases hp; exact XT.iushr h hx rfl hd rfl r
  case h_20 => unfold op1 at hp; split at hp <;> cases hp; exact XT.i2c h hx rfl hd rfl r
  case h_21 => unfold op1 at hp; split at hp <;> cases hp; exact XT.i2b h hx rfl hd rfl r
  case h_22 => unfold opJ1 at hp; split at hp <;> cases hp; exact XT.l2i h hx rfl hd rfl r
  case h_23 => unfold opJ at hp; split at hp <;> cases hp; exact XT.land h hx rfl hd rfl r
  case h_24 => unfold opJI at hp; split at hp <;> cases hp; exact XT.lushr h hx rfl hd rfl r
  case h_25 k => unfold stI at hp; split at hp <;> first | cases hp | (split at hp <;> cases hp; rename_i q; exact XS.istore h hx rfl hd rfl (one_store q rfl) r)
  case h_26 k => unfold stI at hp; split at hp <;> first | cases hp | (split at hp <;> cases hp; rename_i q; exact XS.istoreN h hx rfl hd rfl (one_store q rfl) r)
  case h_27 k => unfold stA at hp; split at hp <;> first | cases hp | (split at hp <;> cases hp; rename_i q; exact XS.astore h hx rfl hd rfl rfl (one_store q rfl) r)
  case h_28 k => unfold stA at hp; split at hp <;> first | cases hp | (split at hp <;> cases hp; rename_i q; exact XS.astoreN h hx rfl hd rfl rfl (one_store q rfl) r)
  case h_29 k => unfold stJ at hp; split at hp <;> first | cases hp | (split at hp <;> cases hp; rename_i q; exact XT.lstore h hx rfl hd rfl (two_store (Bool.and_eq_true_iff.mp q).1 (Bool.and_eq_true_iff.mp q).2) r)
  case h_30 k => unfold stJ at hp; split at hp <;> first | cases hp | (split at hp <;> cases hp; rename_i q; exact XT.lstoreN h hx rfl hd rfl (two_store (Bool.and_eq_true_iff.mp q).1 (Bool.and_eq_true_iff.mp q).2) r)
  case h_31 k cc => unfold inc at hp; split at hp <;> cases hp; rename_i q; exact XS.iinc h hx rfl hd ((lget_eq _ _).trans q) (one_store (by rw [q]; rfl) rfl) r
  case h_32 => cases hp
theorem prun_ok (h : At T m c below) (hx : tb.exec = Jvm.exec) : ∀ (is : List Instr) {pc pc' : Nat} {L L' : List Slot} {S S' : List Value}, decs c.code pc is = true → prun is pc L S = some (pc', L', S') →
    Steps tb e below (T.setTop (fr m pc' L' S')) target → Steps tb e below (T.setTop (fr m pc L S)) target
  | [], _, _, _, _, _, _, _, hp, r => by cases hp; exact r
  | i :: is, pc, pc', L, L', S, S', hd, hp, r => by
    simp only [decs, Bool.and_eq_true, decide_eq_true_eq] at hd
    unfold prun at hp
    split at hp
    · rename_i L1 S1 q
      exact pst_ok h hx hd.1 q (prun_ok h hx is hd.2 hp r)
    · cases hp
end Plain
end Jvm.Own
namespace Jvm.Own
open Jvm Sem ClassFile Op Lib Jvm.Free Jvm.Stand Jvm.LawKit Jvm.RoadKit Bundle
/-- what stays as it is while a body is walked -/
def Ctx (Z : State) (a0 : Array Value) (EL : List (String × Nat)) (p : Program) (s : State) (m : MethodId) (meth : Method) (c : Code) (own name : String) (bytes : ByteArray) (maxL : Nat) (ret : Option FieldType) : Prop :=
  p.tables.exec = Jvm.exec ∧ Z.Warmed39 s.vm ∧ s.vm.findClass own = some m.cls ∧ c.code = bytes ∧ c.maxLocals = maxL ∧ meth.sig.returnType = ret ∧ meth.name = name ∧ meth.locks = false ∧ EW Z a0 EL
/-- where a walk stands: its heap is h; all that it has written is new since Z -/
def Pos (Z : State) (EL : List (String × Nat)) (n0 : Nat) (p : Program) (l : Launch) (e : Env) (R : Room) (s : State) (m : MethodId) (args : Array Value) (below : List Frame) (meth : Method) (c : Code) (T : State) (h : Heap) (k n : Nat) : Prop :=
  ∃ (vm0 : Vm) (k0 : Nat) (locs : List Loc), Stand p l e R (s.setVm vm0) m args below meth c T locs k n ∧ T.heap = h ∧ s.Since vm0 k0 ∧ k0 ≤ h.size ∧ CHr Z EL s.vm s.heap vm0 h ∧ Fr n0 locs ∧ Old Z n0 h
/-- how a body's run ends -/
def Ends (Z : State) (EL : List (String × Nat)) (n0 : Nat) (rm : Room) (below : List Frame) (Q : Option Value → Heap → Prop) (s : State) (t : State) (o : Outcome) : Prop :=
  t.status = .running ∧ Ended t below o ∧ ∃ v L, o = .returned v ∧ (Q v t.heap ∧ Fr n0 L ∧ Old Z n0 t.heap) ∧ CHr Z EL s.vm s.heap t.vm t.heap ∧ ReturnedEndW s o t L rm.cells rm.slots
/-- a callee's contract -/
def Con (l : Launch) (Z : State) (EL : List (String × Nat)) (n0 : Nat) (ws : List Jvm.Cond) (y : MethodName) (bytes : ByteArray) (maxL : Nat) (ret : Option FieldType) (rm : Room) (as' : Array Value) (h : Heap) (Q : Option Value → Heap → Prop) : Prop :=
  MetFree l y (head1 (Jvm.Cond.code y bytes maxL ret :: ws) rm) (fun a U => a = as' ∧ Z.Warmed39 U.vm ∧ U.heap = h ∧ CHv Z EL U.vm h) (fun _ _ _ _ _ => True)
    (fun _ U o U' => ∃ v L, o = .returned v ∧ (Q v U'.heap ∧ Fr n0 L ∧ Old Z n0 U'.heap) ∧ CHr Z EL U.vm U.heap U'.vm U'.heap ∧ ReturnedEndW U o U' L rm.cells rm.slots)
def Ret1 (Q : Value → Heap → Prop) (v : Option Value) (h : Heap) : Prop := ∃ w, v = some w ∧ Q w h
def Ret0 (Q : Heap → Prop) (v : Option Value) (h : Heap) : Prop := v = none ∧ Q h
theorem exR (h : Heap) : Ext h h := ⟨Nat.le_refl _, fun _ _ q => q⟩
theorem exT {h0 h h' : Heap} (E : Ext h0 h) (E' : Ext h h') : Ext h0 h' := ⟨Nat.le_trans E.1 E'.1, fun a c q => E'.2 a c (E.2 a c q)⟩
theorem exK {h0 h h' : Heap} {a : Addr} (E : Ext h0 h) (K : Keep h h' [a]) (q : h0.size ≤ a) : Ext h0 h' := ⟨Nat.le_trans E.1 K.1, fun x c r => K.2.1 x c (E.2 x c r) fun z => by
  cases List.mem_singleton.mp z
  exact absurd (Array.getElem?_eq_some_iff.mp r).1 (Nat.not_lt.mpr q)⟩
theorem exK0 {h0 h h' : Heap} (E : Ext h0 h) (K : Keep h h' []) : Ext h0 h' := ⟨Nat.le_trans E.1 K.1, fun x c r => K.2.1 x c (E.2 x c r) fun z => by cases z⟩
/-- an object under construction -/
def Blk (Z : State) (a0 : Array Value) (n0 : Nat) (h : Heap) (a : Addr) (C : String) : Prop := n0 ≤ a ∧ Exa Z h a C ∧ ∀ {O nm d : String} {ty : FieldType}, Laid Z a0 C O nm d → parseFieldDescriptor d = some ty → Fld Z h a O nm d (defaultValue ty)
theorem Blk.ext {Z : State} {a0 : Array Value} {n0 : Nat} {h h' : Heap} {a : Addr} {C : String} (B : Blk Z a0 n0 h a C) (E : Ext h h') : Blk Z a0 n0 h' a C := ⟨B.1, B.2.1.ext E, fun L q => (B.2.2 L q).ext E⟩
theorem Blk.keep {Z : State} {a0 : Array Value} {n0 : Nat} {h h' : Heap} {a : Addr} {C : String} {ws : List Addr} (B : Blk Z a0 n0 h a C) (K : Keep h h' ws) (q : a ∉ ws) : Blk Z a0 n0 h' a C := ⟨B.1, B.2.1.keep K, fun L r => (B.2.2 L r).keep K q⟩
/-- a char[] made by the walk -/
def Chs (Z : State) (n0 : Nat) (h : Heap) (b : Addr) (vs : List Int32) : Prop := n0 ≤ b ∧ vs.length ≤ 4000 ∧ ∃ k, Arv Z h b k .char (Int32.ofNat vs.length) (vs.map Value.int) (.int 0)
theorem Chs.ext {Z : State} {n0 : Nat} {h h' : Heap} {b : Addr} {vs : List Int32} (B : Chs Z n0 h b vs) (E : Ext h h') : Chs Z n0 h' b vs := by obtain ⟨h1, h2, k, h3⟩ := B; exact ⟨h1, h2, k, h3.ext E⟩
abbrev sST : String := "java/lang/String"
/-- a String that spells cs, each 0 to 255 -/
def Str (Z : State) (h : Heap) (a : Addr) (cs : List Int32) : Prop := cs.length ≤ 4000 ∧ (∀ c ∈ cs, ¬ c < 0 ∧ ¬ (255 : Int32) < c) ∧ Exa Z h a sST ∧ Fld Z h a sST "coder" "B" (.int 0) ∧
  ∃ t k, Fld Z h a sST "value" "[B" (.ref t) ∧ Arv Z h t k .byte (Int32.ofNat cs.length) ((cs.map fun c => c.toInt8.toInt32).map Value.int) (.int 0)
section StrF
variable {Z : State} {a0 : Array Value} {n0 : Nat} {h h' : Heap} {a b : Addr} {cs : List Int32} {C : String} {n : Nat}
theorem Str.exa (S : Str Z h a cs) : Exa Z h a sST := S.2.2.1
theorem Str.ext (S : Str Z h a cs) (E : Ext h h') : Str Z h' a cs := by obtain ⟨h1, h2, h3, h4, t, k, h5, h6⟩ := S; exact ⟨h1, h2, h3.ext E, h4.ext E, t, k, h5.ext E, h6.ext E⟩
theorem Str.keep (S : Str Z h b cs) (K : Keep h h' [a]) (B : Exa Z h a C) (hne : b ≠ a) (wi : (Jvm.Cond.instantiable C n).before a0 Z = true) : Str Z h' b cs := by
  obtain ⟨h1, h2, h3, h4, t, k, h5, h6⟩ := S
  exact ⟨h1, h2, h3.keep K, h4.keep K (ninS hne nin0), t, k, h5.keep K (ninS hne nin0), h6.keep K (ninS (B.neArv h6 wi).symm nin0)⟩
theorem Str.keepO (S : Str Z h b cs) (K : Keep h h' [a]) (B : Exa Z h a C) (hC : C ≠ sST) (wi : (Jvm.Cond.instantiable C n).before a0 Z = true) : Str Z h' b cs := S.keep K B (ne_exa S.exa B hC.symm) wi
theorem Str.keepS (S : Str Z h b cs) (K : Keep h h' [a]) (B : Blk Z a0 n0 h a sST) (wl : (Jvm.Cond.laysFinal sST sST "value" "[B").before a0 Z = true) (wi : (Jvm.Cond.instantiable sST n).before a0 Z = true) : Str Z h' b cs := by
  have hv : Fld Z h a sST "value" "[B" .null := B.2.2 (Or.inr wl) (ty := .array .byte) (by decide)
  obtain ⟨t, k, h5, -⟩ := S.2.2.2.2
  exact S.keep K B.2.1 (Fld.ne h5 hv (by simp)) wi
end StrF
theorem safe_blank {Z : State} {EL : List (String × Nat)} {vm : Vm} {h : Heap} {x : Addr} (hal : Z.vm.Alike vm) (E : Exa Z h x sST) (V : Fld Z h x sST "value" "[B" .null) : Safe Z EL vm h x := fun B => by
  obtain ⟨cell, kc, e1, e2, -⟩ := E
  obtain ⟨p, -, u, a, -, q, -, F, rfl | rfl⟩ := B
  · have f1 := F.ha
    obtain ⟨cS, ⟨⟨s1, s2, s3, ⟨cv, kv, iv, s4, s4'⟩, s5, s6, s7, s8, -⟩, -, -⟩, -⟩ := F
    obtain ⟨kv', z4⟩ := ff_back (U := Wst Z vm h) hal s4
    obtain ⟨cell', cf, k, i, f, v1, v2, -, -, -, -, v7⟩ := V
    cases (show h[q.sa]? = some q.sC from f1).symm.trans v1
    cases v2.symm.trans z4
    rw [s8] at v7; cases v7
  · have f2 := F.hd
    obtain ⟨cS, -, -, f, -⟩ := F
    cases (show h[q.sd]? = some q.SA from f2).symm.trans e1
    have f' : Z.vm.findClass "[B" = some q.SA.cls := by rw [← hal.findClass]; exact f
    obtain ⟨k1, q1, q2⟩ := Vm.findClass_spec f'
    obtain ⟨k2, q3, q4⟩ := Vm.findClass_spec e2
    cases q1.symm.trans q3
    have : "[B" = "java/lang/String" := q2.symm.trans q4
    exact absurd this (by decide)
section Walk
variable {Z : State} {a0 : Array Value} {EL : List (String × Nat)} {n0 : Nat} {p : Program} {l : Launch} {e : Env} {R : Room} {s : State} {m : MethodId} {args : Array Value} {below : List Frame} {meth : Method} {c : Code} {own name : String} {bytes : ByteArray} {maxL : Nat} {ret : Option FieldType}
  {F : State → Outcome → Prop} {T : State} {h : Heap} {k n : Nat} {pc pc' : Nat} {L L' : List Slot} {S S' : List Value} {Q : Option Value → Heap → Prop}
theorem Con.intro {ws : List Jvm.Cond} {y : MethodName} (hpl : plainFor y = true) (hO : Old Z n0 h) (hEL : EW Z a0 EL)
    (body : ∀ (p : Program) (e : Env) (s : State) (m : MethodId) (below : List Frame) (meth : Method) (c : Code) (T : State), Ctx Z a0 EL p s m meth c y.cls y.name bytes maxL ret → s.heap = h → Pos Z EL n0 p l e R s m args below meth c T h 0 0 → Run p.tables e below (Ends Z EL n0 R below Q s) T (entryFrame m args maxL)) :
    Con l Z EL n0 ws y bytes maxL ret R args h Q := by
  refine MetFree.of_bodySF hpl hisR ?_
  intro p e s m args' below meth c s₁ Bd hml hP _
  obtain ⟨rfl, hZ, hh, hC⟩ := hP
  have hown : s.vm.findClass y.cls = some m.cls := findClass_of_methodNamed Bd.named
  have hnm := (name_of_methodNamed Bd.named Bd.method).1
  have X0 : Stand p l e R s m args' below meth c s₁ [] 0 0 := Stand.of_body Bd
  have e0 : s₁.heap = h := by rw [← hh, Bd.state]; rfl
  have CR : CHr Z EL s.vm s.heap s.vm h := by rw [hh]; exact CHr.refl hC
  exact body p e s m below meth c s₁ ⟨Bd.exec, hZ, hown, Bd.bytes, hml, Bd.returns, hnm, Bd.notSynchronized, hEL⟩ hh ⟨s.vm, 0, [], X0, e0, (State.WarmedH.refl s).since 0, Nat.zero_le _, CR, Fr.nil n0, hO⟩
theorem Pos.opened (C : Ctx Z a0 EL p s m meth c own name bytes maxL ret) (P : Pos Z EL n0 p l e R s m args below meth c T h k n) :
    ∃ (vm0 : Vm) (k0 : Nat) (locs : List Loc), Stand p l e R (s.setVm vm0) m args below meth c T locs k n ∧ T.heap = h ∧ s.Since vm0 k0 ∧ k0 ≤ h.size ∧ CHr Z EL s.vm s.heap vm0 h ∧ Fr n0 locs ∧ Old Z n0 h ∧ Z.Warmed39 (s.setVm vm0).vm ∧ (s.setVm vm0).vm.findClass own = some m.cls := by
  obtain ⟨vm0, k0, locs, X, eT, hS, hk, hC, hF, hO⟩ := P
  exact ⟨vm0, k0, locs, X, eT, hS, hk, hC, hF, hO, State.Warmed39.trans C.2.1 hS.1, (hS.1.alike.findClass _ _).trans C.2.2.1⟩
theorem Pos.old (P : Pos Z EL n0 p l e R s m args below meth c T h k n) : Old Z n0 h := by obtain ⟨_, _, _, _, _, _, _, _, _, hO⟩ := P; exact hO
theorem Pos.n0le (P : Pos Z EL n0 p l e R s m args below meth c T h k n) : n0 ≤ h.size := by have := P.old; rw [← this.1]; exact this.2.1
theorem Pos.z (P : Pos Z EL n0 p l e R s m args below meth c T h k n) : Ext Z.heap h := P.old.2
theorem Pos.more (P : Pos Z EL n0 p l e R s m args below meth c T h k n) {k' n' : Nat} (hk : k ≤ k') (hn : n ≤ n') : Pos Z EL n0 p l e R s m args below meth c T h k' n' := by
  obtain ⟨vm0, k0, locs, X, r⟩ := P; exact ⟨vm0, k0, locs, X.more hk hn, r⟩
theorem blk (C : Ctx Z a0 EL p s m meth c own name bytes maxL ret) (P : Pos Z EL n0 p l e R s m args below meth c T h k n) (is : List Instr) (hd : decs bytes pc is = true) (hp : prun is pc L S = some (pc', L', S'))
    (r : Run p.tables e below F T (fr m pc' L' S')) : Run p.tables e below F T (fr m pc L S) := by
  obtain ⟨vm0, k0, locs, X, -⟩ := P
  exact Run.go (fun t q => prun_ok X.here C.1 is (by rw [C.2.2.2.1]; exact hd) hp q) r
def icY : ClassFile.Cond → Int32 → Prop
  | .eq, x => x = 0
  | .ne, x => ¬ x = 0
  | .lt, x => x < 0
  | .ge, x => ¬ x < 0
  | .gt, x => 0 < x
  | .le, x => ¬ 0 < x
def icN : ClassFile.Cond → Int32 → Prop
  | .eq, x => ¬ x = 0
  | .ne, x => x = 0
  | .lt, x => ¬ x < 0
  | .ge, x => x < 0
  | .gt, x => ¬ 0 < x
  | .le, x => 0 < x
theorem icY_ok {cd : ClassFile.Cond} {x : Int32} (q : icY cd x) : ifCond.holds cd x = true := by
  cases cd <;> simp only [icY] at q <;> simp [ifCond.holds, q] <;> exact Int32.not_lt.mp q
theorem icN_ok {cd : ClassFile.Cond} {x : Int32} (q : icN cd x) : ifCond.holds cd x = false := by
  cases cd <;> simp only [icN] at q <;> simp [ifCond.holds, q] <;> exact Int32.not_lt.mp q
theorem ic_or (cd : ClassFile.Cond) (x : Int32) : icY cd x ∨ icN cd x := by
  cases cd <;> simp only [icY, icN] <;> first | exact Classical.em _ | exact (Classical.em _).symm
def cmY : ClassFile.Cond → Int32 → Int32 → Prop
  | .eq, x, y => x = y
  | .ne, x, y => ¬ x = y
  | .lt, x, y => x < y
  | .ge, x, y => ¬ x < y
  | .gt, x, y => y < x
  | .le, x, y => ¬ y < x
def cmN : ClassFile.Cond → Int32 → Int32 → Prop
  | .eq, x, y => ¬ x = y
  | .ne, x, y => x = y
  | .lt, x, y => ¬ x < y
  | .ge, x, y => x < y
  | .gt, x, y => ¬ y < x
  | .le, x, y => y < x
theorem cmY_ok {cd : ClassFile.Cond} {x y : Int32} (q : cmY cd x y) : if_icmp.holds cd x y = true := by
  cases cd <;> simp only [cmY] at q <;> simp [if_icmp.holds, q] <;> exact Int32.not_lt.mp q
theorem cmN_ok {cd : ClassFile.Cond} {x y : Int32} (q : cmN cd x y) : if_icmp.holds cd x y = false := by
  cases cd <;> simp only [cmN] at q <;> simp [if_icmp.holds, q] <;> exact Int32.not_lt.mp q
theorem cm_or (cd : ClassFile.Cond) (x y : Int32) : cmY cd x y ∨ cmN cd x y := by
  cases cd <;> simp only [cmY, cmN] <;> first | exact Classical.em _ | exact (Classical.em _).symm
theorem b_goto (C : Ctx Z a0 EL p s m meth c own name bytes maxL ret) (P : Pos Z EL n0 p l e R s m args below meth c T h k n) {o : Int} (hd : decode bytes pc = .ok (.goto o, 3)) (ho : 0 ≤ (pc : Int) + o ∧ ((pc : Int) + o).toNat = pc')
    (r : Run p.tables e below F T (fr m pc' L S)) : Run p.tables e below F T (fr m pc L S) := by
  obtain ⟨vm0, k0, locs, X, -⟩ := P
  exact Run.go (fun t q => XS.goto X.here C.1 rfl (pc0 := pc) rfl (hb C.2.2.2.1 hd) ho.1 ho.2 q) r
theorem b_ifY (C : Ctx Z a0 EL p s m meth c own name bytes maxL ret) (P : Pos Z EL n0 p l e R s m args below meth c T h k n) {cd : ClassFile.Cond} {o : Int} {x : Int32} (hd : decode bytes pc = .ok (.ifCond cd o, 3)) (ho : 0 ≤ (pc : Int) + o ∧ ((pc : Int) + o).toNat = pc') (q : icY cd x)
    (r : Run p.tables e below F T (fr m pc' L S)) : Run p.tables e below F T (fr m pc L (.int x :: S)) := by
  obtain ⟨vm0, k0, locs, X, -⟩ := P
  exact Run.go (fun t z => XS.ifYes X.here C.1 rfl (pc0 := pc) rfl (hb C.2.2.2.1 hd) rfl (icY_ok q) ho.1 ho.2 z) r
theorem b_ifN (C : Ctx Z a0 EL p s m meth c own name bytes maxL ret) (P : Pos Z EL n0 p l e R s m args below meth c T h k n) {cd : ClassFile.Cond} {o : Int} {x : Int32} (hd : decode bytes pc = .ok (.ifCond cd o, 3)) (hq : pc + 3 = pc') (q : icN cd x)
    (r : Run p.tables e below F T (fr m pc' L S)) : Run p.tables e below F T (fr m pc L (.int x :: S)) := by
  subst hq
  obtain ⟨vm0, k0, locs, X, -⟩ := P
  exact Run.go (fun t z => XS.ifNo X.here C.1 rfl (hb C.2.2.2.1 hd) rfl (icN_ok q) z) r
theorem b_if (C : Ctx Z a0 EL p s m meth c own name bytes maxL ret) (P : Pos Z EL n0 p l e R s m args below meth c T h k n) {cd : ClassFile.Cond} {o : Int} {x : Int32} {pn : Nat} (hd : decode bytes pc = .ok (.ifCond cd o, 3)) (ho : 0 ≤ (pc : Int) + o ∧ ((pc : Int) + o).toNat = pc') (hq : pc + 3 = pn)
    (y : icY cd x → Run p.tables e below F T (fr m pc' L S)) (no : icN cd x → Run p.tables e below F T (fr m pn L S)) : Run p.tables e below F T (fr m pc L (.int x :: S)) :=
  (ic_or cd x).elim (fun q => b_ifY C P hd ho q (y q)) (fun q => b_ifN C P hd hq q (no q))
theorem b_cmY (C : Ctx Z a0 EL p s m meth c own name bytes maxL ret) (P : Pos Z EL n0 p l e R s m args below meth c T h k n) {cd : ClassFile.Cond} {o : Int} {x y : Int32} (hd : decode bytes pc = .ok (.if_icmp cd o, 3)) (ho : 0 ≤ (pc : Int) + o ∧ ((pc : Int) + o).toNat = pc') (q : cmY cd x y)
    (r : Run p.tables e below F T (fr m pc' L S)) : Run p.tables e below F T (fr m pc L (.int y :: .int x :: S)) := by
  obtain ⟨vm0, k0, locs, X, -⟩ := P
  exact Run.go (fun t z => XS.icmpYes X.here C.1 rfl (pc0 := pc) rfl (hb C.2.2.2.1 hd) rfl (cmY_ok q) ho.1 ho.2 z) r
theorem b_cmN (C : Ctx Z a0 EL p s m meth c own name bytes maxL ret) (P : Pos Z EL n0 p l e R s m args below meth c T h k n) {cd : ClassFile.Cond} {o : Int} {x y : Int32} (hd : decode bytes pc = .ok (.if_icmp cd o, 3)) (hq : pc + 3 = pc') (q : cmN cd x y)
    (r : Run p.tables e below F T (fr m pc' L S)) : Run p.tables e below F T (fr m pc L (.int y :: .int x :: S)) := by
  subst hq
  obtain ⟨vm0, k0, locs, X, -⟩ := P
  exact Run.go (fun t z => XS.icmpNo X.here C.1 rfl (hb C.2.2.2.1 hd) rfl (cmN_ok q) z) r
theorem b_cm (C : Ctx Z a0 EL p s m meth c own name bytes maxL ret) (P : Pos Z EL n0 p l e R s m args below meth c T h k n) {cd : ClassFile.Cond} {o : Int} {x y : Int32} {pn : Nat} (hd : decode bytes pc = .ok (.if_icmp cd o, 3)) (ho : 0 ≤ (pc : Int) + o ∧ ((pc : Int) + o).toNat = pc') (hq : pc + 3 = pn)
    (yes : cmY cd x y → Run p.tables e below F T (fr m pc' L S)) (no : cmN cd x y → Run p.tables e below F T (fr m pn L S)) : Run p.tables e below F T (fr m pc L (.int y :: .int x :: S)) :=
  (cm_or cd x y).elim (fun q => b_cmY C P hd ho q (yes q)) (fun q => b_cmN C P hd hq q (no q))
theorem b_nullY (C : Ctx Z a0 EL p s m meth c own name bytes maxL ret) (P : Pos Z EL n0 p l e R s m args below meth c T h k n) {o : Int} (hd : decode bytes pc = .ok (.ifnull o, 3)) (ho : 0 ≤ (pc : Int) + o ∧ ((pc : Int) + o).toNat = pc')
    (r : Run p.tables e below F T (fr m pc' L S)) : Run p.tables e below F T (fr m pc L (.null :: S)) := by
  obtain ⟨vm0, k0, locs, X, -⟩ := P
  exact Run.go (fun t z => XS.ifnullYes X.here C.1 rfl (pc0 := pc) rfl (hb C.2.2.2.1 hd) rfl ho.1 ho.2 z) r
theorem b_nullN (C : Ctx Z a0 EL p s m meth c own name bytes maxL ret) (P : Pos Z EL n0 p l e R s m args below meth c T h k n) {o : Int} {a : Addr} (hd : decode bytes pc = .ok (.ifnull o, 3)) (hq : pc + 3 = pc')
    (r : Run p.tables e below F T (fr m pc' L S)) : Run p.tables e below F T (fr m pc L (.ref a :: S)) := by
  subst hq
  obtain ⟨vm0, k0, locs, X, -⟩ := P
  exact Run.go (fun t z => XS.ifnullNo X.here C.1 rfl (hb C.2.2.2.1 hd) rfl z) r
theorem b_nonnullY (C : Ctx Z a0 EL p s m meth c own name bytes maxL ret) (P : Pos Z EL n0 p l e R s m args below meth c T h k n) {o : Int} {a : Addr} (hd : decode bytes pc = .ok (.ifnonnull o, 3)) (ho : 0 ≤ (pc : Int) + o ∧ ((pc : Int) + o).toNat = pc')
    (r : Run p.tables e below F T (fr m pc' L S)) : Run p.tables e below F T (fr m pc L (.ref a :: S)) := by
  obtain ⟨vm0, k0, locs, X, -⟩ := P
  exact Run.go (fun t z => XT.ifnonnullYes X.here C.1 rfl (pc0 := pc) rfl (hb C.2.2.2.1 hd) rfl ho.1 ho.2 z) r
theorem b_nonnullN (C : Ctx Z a0 EL p s m meth c own name bytes maxL ret) (P : Pos Z EL n0 p l e R s m args below meth c T h k n) {o : Int} (hd : decode bytes pc = .ok (.ifnonnull o, 3)) (hq : pc + 3 = pc')
    (r : Run p.tables e below F T (fr m pc' L S)) : Run p.tables e below F T (fr m pc L (.null :: S)) := by
  subst hq
  obtain ⟨vm0, k0, locs, X, -⟩ := P
  exact Run.go (fun t z => XT.ifnonnullNo X.here C.1 rfl (hb C.2.2.2.1 hd) rfl z) r
theorem b_acmp (C : Ctx Z a0 EL p s m meth c own name bytes maxL ret) (P : Pos Z EL n0 p l e R s m args below meth c T h k n) {cd : ACond} {o : Int} {x y : Value} (h1 : x.isRef = true) (h2 : y.isRef = true) {same : Bool} (hd : decode bytes pc = .ok (.if_acmp cd o, 3)) (hq : decide (x = y) = same) (ho : 0 ≤ (pc : Int) + o) (hp : pc' = if acV cd same = true then ((pc : Int) + o).toNat else pc + 3)
    (r : Run p.tables e below F T (fr m pc' L S)) : Run p.tables e below F T (fr m pc L (y :: x :: S)) := by
  obtain ⟨vm0, k0, locs, X, -⟩ := P
  exact Run.go (fun t z => acmp X C.1 rfl h1 h2 (pc0 := pc) rfl (hb C.2.2.2.1 hd) rfl hq ho hp z) r
theorem s_irem (C : Ctx Z a0 EL p s m meth c own name bytes maxL ret) (P : Pos Z EL n0 p l e R s m args below meth c T h k n) {x y : Int32} (hd : decode bytes pc = .ok (.irem, 1)) (hy : y ≠ 0) (hq : pc + 1 = pc')
    (r : Run p.tables e below F T (fr m pc' L (.int (x % y) :: S))) : Run p.tables e below F T (fr m pc L (.int y :: .int x :: S)) := by
  subst hq
  obtain ⟨vm0, k0, locs, X, -⟩ := P
  exact Run.go (fun t z => iremM X C.1 rfl (hb C.2.2.2.1 hd) rfl hy z) r
theorem s_aloadN (C : Ctx Z a0 EL p s m meth c own name bytes maxL ret) (P : Pos Z EL n0 p l e R s m args below meth c T h k n) {i : Fin 4} {v : Value} (hd : decode bytes pc = .ok (.aload_n i, 1)) (hl : lget L i.val = some (.val v)) (hv : v.isRef = true) (hq : pc + 1 = pc')
    (r : Run p.tables e below F T (fr m pc' L (v :: S))) : Run p.tables e below F T (fr m pc L S) := by
  subst hq
  obtain ⟨vm0, k0, locs, X, -⟩ := P
  exact Run.go (fun t z => XS.aloadN X.here C.1 rfl (hb C.2.2.2.1 hd) ((lget_eq _ _).trans hl) hv z) r
theorem s_aload (C : Ctx Z a0 EL p s m meth c own name bytes maxL ret) (P : Pos Z EL n0 p l e R s m args below meth c T h k n) {i : Nat} {v : Value} (hd : decode bytes pc = .ok (.aload i, 2)) (hl : lget L i = some (.val v)) (hv : v.isRef = true) (hq : pc + 2 = pc')
    (r : Run p.tables e below F T (fr m pc' L (v :: S))) : Run p.tables e below F T (fr m pc L S) := by
  subst hq
  obtain ⟨vm0, k0, locs, X, -⟩ := P
  exact Run.go (fun t z => XS.aload X.here C.1 rfl (hb C.2.2.2.1 hd) ((lget_eq _ _).trans hl) hv z) r
theorem s_getf (C : Ctx Z a0 EL p s m meth c own name bytes maxL ret) (P : Pos Z EL n0 p l e R s m args below meth c T h k n) {idx : Nat} {O nm d : String} {a : Addr} {v : Value} (hd : decode bytes pc = .ok (.getfield idx, 3)) (w : (Jvm.Cond.fieldLink own idx O nm d).before a0 Z = true) (G : Fld Z h a O nm d v) (hq : pc + 3 = pc')
    (r : ∀ T', Pos Z EL n0 p l e R s m args below meth c T' h k n → Run p.tables e below F T' (fr m pc' L (v :: S))) : Run p.tables e below F T (fr m pc L (.ref a :: S)) := by
  subst hq
  obtain ⟨vm0, k0, locs, X, eT, hS, hk, hC, hF, hO, hZ, hown⟩ := P.opened C
  obtain ⟨T', X', e', st⟩ := getF X C.1 hZ hown (host := "") (Or.inl w) Via.refl eT G (g := fr m pc L (.ref a :: S)) rfl rfl (hb C.2.2.2.1 hd)
  exact Run.go st (r T' ⟨vm0, k0, locs, X', e', hS, hk, hC, hF, hO⟩)
theorem s_gets (C : Ctx Z a0 EL p s m meth c own name bytes maxL ret) (P : Pos Z EL n0 p l e R s m args below meth c T h k n) {idx : Nat} {O nm d : String} {v : Value} (hd : decode bytes pc = .ok (.getstatic idx, 3)) (w : (Jvm.Cond.fieldLink own idx O nm d).before a0 Z = true) (G : Sta Z Z.heap O nm d v) (hq : pc + 3 = pc')
    (r : ∀ T', Pos Z EL n0 p l e R s m args below meth c T' h k n → Run p.tables e below F T' (fr m pc' L (v :: S))) : Run p.tables e below F T (fr m pc L S) := by
  subst hq
  have G' := G.ext P.z
  obtain ⟨vm0, k0, locs, X, eT, hS, hk, hC, hF, hO, hZ, hown⟩ := P.opened C
  obtain ⟨T', X', e', st⟩ := getS X C.1 hZ hown (host := "") w Via.refl eT G' (g := fr m pc L S) rfl (hb C.2.2.2.1 hd)
  exact Run.go st (r T' ⟨vm0, k0, locs, X', e', hS, hk, hC, hF, hO⟩)
/-- a putfield of a constructor, on the object that it makes (no String) -/
theorem s_putf (C : Ctx Z a0 EL p s m meth c own name bytes maxL ret) (P : Pos Z EL n0 p l e R s m args below meth c T h k n) {idx kk : Nat} {nm d K : String} {a : Addr} {v old : Value} {ty : FieldType} (hd : decode bytes pc = .ok (.putfield idx, 3)) (w : (Jvm.Cond.fieldLink own idx own nm d).before a0 Z = true)
    (ge : n0 ≤ a) (G : Fld Z h a own nm d old) (E : Exa Z h a K) (wl : (Jvm.Cond.laysFinal K own nm d).before a0 Z = true) (hname : name = "<init>") (wi : (Jvm.Cond.instantiable K kk).before a0 Z = true) (hK : K ≠ sST ∧ K ≠ "[B") (hty : parseFieldDescriptor d = some ty) (hn : narrow ty v = v) (hf : fits ty v = true) (hq : pc + 3 = pc')
    (r : ∀ T' h', Pos Z EL n0 p l e R s m args below meth c T' h' k n → Wr h h' a (RoadKit.slotOf Z own nm d) v → Run p.tables e below F T' (fr m pc' L S)) : Run p.tables e below F T (fr m pc L (v :: .ref a :: S)) := by
  subst hq
  obtain ⟨vm0, k0, locs, X, eT, hS, hk, hC, hF, hO, hZ, hown⟩ := P.opened C
  obtain ⟨T', h', X', e', W, st⟩ := putF X C.1 hZ hown (host := "") (Or.inl w) Via.refl eT G E (Or.inr ⟨wl, rfl, by rw [C.2.2.2.2.2.2.1]; exact hname⟩) wi hty hn hf (g := fr m pc L (v :: .ref a :: S)) rfl rfl (hb C.2.2.2.1 hd)
  have hz : h'.size = h.size := W.size
  exact Run.go st (r T' h' ⟨vm0, k0, _, X', e', hS, by rw [hz]; exact hk, hC.trans (CHr.wr W (Safe.exa hZ.alike E hK.1 hK.2) hC.1), Fr.snoc X' hF ge, hO.wr W ge⟩ W)
/-- the same for a field that isn't final -/
theorem s_putv (C : Ctx Z a0 EL p s m meth c own name bytes maxL ret) (P : Pos Z EL n0 p l e R s m args below meth c T h k n) {idx kk : Nat} {O nm d K : String} {a : Addr} {v old : Value} {ty : FieldType} (hd : decode bytes pc = .ok (.putfield idx, 3)) (w : (Jvm.Cond.fieldLink own idx O nm d).before a0 Z = true)
    (ge : n0 ≤ a) (G : Fld Z h a O nm d old) (E : Exa Z h a K) (wl : (Jvm.Cond.lays K O nm d).before a0 Z = true) (wi : (Jvm.Cond.instantiable K kk).before a0 Z = true) (hK : K ≠ sST ∧ K ≠ "[B") (hty : parseFieldDescriptor d = some ty) (hn : narrow ty v = v) (hf : fits ty v = true) (hq : pc + 3 = pc')
    (r : ∀ T' h', Pos Z EL n0 p l e R s m args below meth c T' h' k n → Wr h h' a (RoadKit.slotOf Z O nm d) v → Run p.tables e below F T' (fr m pc' L S)) : Run p.tables e below F T (fr m pc L (v :: .ref a :: S)) := by
  subst hq
  obtain ⟨vm0, k0, locs, X, eT, hS, hk, hC, hF, hO, hZ, hown⟩ := P.opened C
  obtain ⟨T', h', X', e', W, st⟩ := putF X C.1 hZ hown (host := "") (Or.inl w) Via.refl eT G E (Or.inl wl) wi hty hn hf (g := fr m pc L (v :: .ref a :: S)) rfl rfl (hb C.2.2.2.1 hd)
  have hz : h'.size = h.size := W.size
  exact Run.go st (r T' h' ⟨vm0, k0, _, X', e', hS, by rw [hz]; exact hk, hC.trans (CHr.wr W (Safe.exa hZ.alike E hK.1 hK.2) hC.1), Fr.snoc X' hF ge, hO.wr W ge⟩ W)
theorem s_new (C : Ctx Z a0 EL p s m meth c own name bytes maxL ret) (P : Pos Z EL n0 p l e R s m args below meth c T h k n) {idx nf : Nat} {K : String} (hd : decode bytes pc = .ok (.new idx, 3)) (w : (Jvm.Cond.classLink own idx K).before a0 Z = true) (wi : (Jvm.Cond.instantiable K nf).before a0 Z = true) (wz : (Jvm.Cond.initialized K).before a0 Z = true)
    (hc : k + 1 ≤ R.cells) (hl : n + nf ≤ R.slots) (hq : pc + 3 = pc')
    (r : ∀ T' h', Pos Z EL n0 p l e R s m args below meth c T' h' (k + 1) (n + nf) → Ext h h' → Blk Z a0 n0 h' h.size K → Run p.tables e below F T' (fr m pc' L (.ref h.size :: S))) : Run p.tables e below F T (fr m pc L S) := by
  subst hq
  have ge := P.n0le
  obtain ⟨vm0, k0, locs, X, eT, hS, hk, hC, hF, hO, hZ, hown⟩ := P.opened C
  obtain ⟨T', h', X', e', E, A, D, -, st⟩ := newO X C.1 hZ hown w wi wz eT (g := fr m pc L S) rfl (hb C.2.2.2.1 hd) hc hl
  exact Run.go st (r T' h' ⟨vm0, k0, locs, X', e', hS, Nat.le_trans hk E.1, hC.trans (CHr.ext E hC.1), hF, hO.ext E⟩ E ⟨ge, A, D⟩)
theorem s_newC (C : Ctx Z a0 EL p s m meth c own name bytes maxL ret) (P : Pos Z EL n0 p l e R s m args below meth c T h k n) {z : Int32} (len : Nat) (hd : decode bytes pc = .ok (.newarray .char, 2)) (w : (Jvm.Cond.arrayClass .char).before a0 Z = true)
    (hz : z = Int32.ofNat len) (hlen : len ≤ 4000) (hc : k + 1 ≤ R.cells) (hl : n + len ≤ R.slots) (hq : pc + 2 = pc')
    (r : ∀ T' h', Pos Z EL n0 p l e R s m args below meth c T' h' (k + 1) (n + len) → Ext h h' → Chs Z n0 h' h.size (List.replicate len 0) → Run p.tables e below F T' (fr m pc' L (.ref h.size :: S))) : Run p.tables e below F T (fr m pc L (.int z :: S)) := by
  subst hq
  have ge := P.n0le
  have e1 : z.toInt = len := by rw [hz]; exact len_toInt (by omega)
  have hnn : ¬ z < 0 := by rw [Int32.lt_iff_toInt_lt, e1]; show ¬ (len : Int) < 0; omega
  have hcl : z.toNatClampNeg = len := by simp only [Int32.toNatClampNeg, e1]; rfl
  obtain ⟨vm0, k0, locs, X, eT, hS, hk, hC, hF, hO, hZ, hown⟩ := P.opened C
  obtain ⟨T', h', cA, X', e', E, A, st⟩ := newP X C.1 hZ (aty := .char) w eT (n := z) (rest := S) (g := fr m pc L (.int z :: S)) rfl (hb C.2.2.2.1 hd) rfl hnn (cap := len) (Nat.le_of_eq hcl) (by omega) hc hl
  have V0 : Arv Z h' h.size cA .char z [] (.int 0) := Arv.new A hnn
  have V : Arv Z h' h.size cA .char z ((List.replicate len (0 : Int32)).map Value.int) (.int 0) := V0.pad (fun i => by
    rw [List.map_replicate]; exact pad_rep [] (Value.int 0) len i)
  have V' : Arv Z h' h.size cA .char (Int32.ofNat (List.replicate len (0 : Int32)).length) ((List.replicate len (0 : Int32)).map Value.int) (.int 0) := by rw [List.length_replicate, ← hz]; exact V
  exact Run.go st (r T' h' ⟨vm0, k0, locs, X', e', hS, Nat.le_trans hk E.1, hC.trans (CHr.ext E hC.1), hF, hO.ext E⟩ E ⟨ge, by rw [List.length_replicate]; exact hlen, cA, V'⟩)
theorem s_stC (C : Ctx Z a0 EL p s m meth c own name bytes maxL ret) (P : Pos Z EL n0 p l e R s m args below meth c T h k n) {j x : Int32} {b : Addr} {vs : List Int32} (i : Nat) (hd : decode bytes pc = .ok (.castore, 1)) (B : Chs Z n0 h b vs) (hj : j = Int32.ofNat i) (hi : i < vs.length) (hx : c16 x = x) (hq : pc + 1 = pc')
    (r : ∀ T' h', Pos Z EL n0 p l e R s m args below meth c T' h' k n → Keep h h' [b] → Chs Z n0 h' b (vs.set i x) → Run p.tables e below F T' (fr m pc' L S)) : Run p.tables e below F T (fr m pc L (.int x :: .int j :: .ref b :: S)) := by
  subst hq hj
  obtain ⟨ge, hlen, kb, cl, A, q1, q2, q3, H, G⟩ := B
  have e1 : (Int32.ofNat i).toInt = i := len_toInt (by omega)
  have e2 : (Int32.ofNat vs.length).toInt = vs.length := len_toInt (by omega)
  have hin : ¬ ((Int32.ofNat i) < 0 ∨ cl.slots.size ≤ (Int32.ofNat i).toNatClampNeg) := inb_of q2 ⟨by rw [Int32.lt_iff_toInt_lt, e1]; show ¬ (i : Int) < 0; omega, by rw [Int32.lt_iff_toInt_lt, e1, e2]; omega⟩
  obtain ⟨vm0, k0, locs, X, eT, hS, hk, hC, hF, hO, hZ, hown⟩ := P.opened C
  obtain ⟨T', h', X', e', W, st⟩ := stC X C.1 hZ eT A (j := Int32.ofNat i) (x := x) hin (g := fr m pc L (.int x :: .int (Int32.ofNat i) :: .ref b :: S)) rfl rfl (hb C.2.2.2.1 hd)
  have hnar : nar .char x = x := hx
  have hci : (Int32.ofNat i).toNatClampNeg = i := by simp only [Int32.toNatClampNeg, e1]; rfl
  have V := Arv.set A q1 q2 q3 H G (fits_nar_char x) W i hci (by simpa using hi)
  have hz : h'.size = h.size := W.size
  rw [hnar, ← List.map_set] at V
  exact Run.go st (r T' h' ⟨vm0, k0, _, X', e', hS, by rw [hz]; exact hk, hC.trans (CHr.wr W (Safe.arr hZ.alike A (by decide)) hC.1), Fr.snoc X' hF ge, hO.wr W ge⟩ (Keep.of_wr W) ⟨ge, by simpa using hlen, kb, by simpa using V⟩)
theorem s_initO (C : Ctx Z a0 EL p s m meth c own name bytes maxL ret) (P : Pos Z EL n0 p l e R s m args below meth c T h k n) {idx : Nat} {a : Addr} {W : Nat} (hd : decode bytes pc = .ok (.invokespecial idx, 3)) (w1 : (Jvm.Cond.methodLink own idx Lib.objectInit).before a0 Z = true) (w2 : (Jvm.Cond.instanceMethod Lib.objectInit).before a0 Z = true)
    (w3 : (Jvm.Cond.code Lib.objectInit ⟨#[0xb1]⟩ 1 none).before a0 Z = true) (hL : L.length = maxL) (hf : 1 ≤ R.frames) (hW : (S.map fun v => v.category).sum ≤ W) (hl : W + 12 ≤ R.locals) (hq : pc + 3 = pc')
    (r : ∀ T', Pos Z EL n0 p l e R s m args below meth c T' h k n → Run p.tables e below F T' (fr m pc' L S)) : Run p.tables e below F T (fr m pc L (.ref a :: S)) := by
  subst hq
  obtain ⟨vm0, k0, locs, X, eT, hS, hk, hC, hF, hO, hZ, hown⟩ := P.opened C
  obtain ⟨T', X', e', st⟩ := initO X C.1 hZ hown w1 w2 w3 eT (g := fr m pc L (.ref a :: S)) rfl (by rw [C.2.2.2.2.1]; exact hL) rfl (hb C.2.2.2.1 hd) hf (W := W) (by show 2 * 0 + _ ≤ _; omega) hl
  exact Run.go st (r T' ⟨vm0, k0, locs, X', e', hS, hk, hC, hF, hO⟩)
theorem s_castY (C : Ctx Z a0 EL p s m meth c own name bytes maxL ret) (P : Pos Z EL n0 p l e R s m args below meth c T h k n) {idx : Nat} {K : String} {a : Addr} (hd : decode bytes pc = .ok (.checkcast idx, 3)) (w : (Jvm.Cond.classLink own idx K).before a0 Z = true) (I : Ins Z h a K true) (hq : pc + 3 = pc')
    (r : ∀ T', Pos Z EL n0 p l e R s m args below meth c T' h k n → Run p.tables e below F T' (fr m pc' L (.ref a :: S))) : Run p.tables e below F T (fr m pc L (.ref a :: S)) := by
  subst hq
  obtain ⟨vm0, k0, locs, X, eT, hS, hk, hC, hF, hO, hZ, hown⟩ := P.opened C
  obtain ⟨T', X', e', st⟩ := castY X C.1 hZ hown w eT I (g := fr m pc L (.ref a :: S)) rfl rfl (hb C.2.2.2.1 hd)
  exact Run.go st (r T' ⟨vm0, k0, locs, X', e', hS, hk, hC, hF, hO⟩)
theorem s_instY (C : Ctx Z a0 EL p s m meth c own name bytes maxL ret) (P : Pos Z EL n0 p l e R s m args below meth c T h k n) {idx : Nat} {K : String} {a : Addr} (hd : decode bytes pc = .ok (.instanceof idx, 3)) (w : (Jvm.Cond.classLink own idx K).before a0 Z = true) (I : Ins Z h a K true) (hq : pc + 3 = pc')
    (r : ∀ T', Pos Z EL n0 p l e R s m args below meth c T' h k n → Run p.tables e below F T' (fr m pc' L (.int 1 :: S))) : Run p.tables e below F T (fr m pc L (.ref a :: S)) := by
  subst hq
  obtain ⟨vm0, k0, locs, X, eT, hS, hk, hC, hF, hO, hZ, hown⟩ := P.opened C
  obtain ⟨T', X', e', st⟩ := instY X C.1 hZ hown w eT I (g := fr m pc L (.ref a :: S)) rfl rfl (hb C.2.2.2.1 hd)
  exact Run.go st (r T' ⟨vm0, k0, locs, X', e', hS, hk, hC, hF, hO⟩)
theorem s_instN (C : Ctx Z a0 EL p s m meth c own name bytes maxL ret) (P : Pos Z EL n0 p l e R s m args below meth c T h k n) {idx : Nat} {K K' : String} {a : Addr} (hd : decode bytes pc = .ok (.instanceof idx, 3)) (w : (Jvm.Cond.classLink own idx K).before a0 Z = true) (I : Ins Z s.heap a K false) (E : Exa Z s.heap a K') (hq : pc + 3 = pc')
    (r : ∀ T', Pos Z EL n0 p l e R s m args below meth c T' h k n → Run p.tables e below F T' (fr m pc' L (.int 0 :: S))) : Run p.tables e below F T (fr m pc L (.ref a :: S)) := by
  subst hq
  obtain ⟨vm0, k0, locs, X, eT, hS, hk, hC, hF, hO, hZ, hown⟩ := P.opened C
  obtain ⟨T', X', e', st⟩ := instN X C.1 hZ hown w eT I E (g := fr m pc L (.ref a :: S)) rfl rfl (hb C.2.2.2.1 hd)
  exact Run.go st (r T' ⟨vm0, k0, locs, X', e', hS, hk, hC, hF, hO⟩)
theorem s_inst0 (C : Ctx Z a0 EL p s m meth c own name bytes maxL ret) (P : Pos Z EL n0 p l e R s m args below meth c T h k n) {idx : Nat} (hd : decode bytes pc = .ok (.instanceof idx, 3)) (hq : pc + 3 = pc')
    (r : Run p.tables e below F T (fr m pc' L (.int 0 :: S))) : Run p.tables e below F T (fr m pc L (.null :: S)) := by
  subst hq
  obtain ⟨vm0, k0, locs, X, -⟩ := P
  exact Run.go (X.instanceofNull C.1 rfl rfl (hb C.2.2.2.1 hd)) r
/-- ldc of a constant of EL, read -/
theorem s_ldc (C : Ctx Z a0 EL p s m meth c own name bytes maxL ret) (P : Pos Z EL n0 p l e R s m args below meth c T h k n) {idx len : Nat} {text : String} (cs : List Int32) (hd : decode bytes pc = .ok (.ldc idx, 2)) (w : (Jvm.Cond.stringLink own idx text).before a0 Z = true) (wS : ∀ a ∈ Bundle.stringAtoms, a.before a0 Z = true) (hmem : (own, idx) ∈ EL)
    (ht : (∀ c ∈ text.toList, c.toNat < 256) ∧ text.toList.map (fun c => Value.int (Jvm.Lit.byteI c.toNat.toUInt16)) = (cs.map fun c => c.toInt8.toInt32).map Value.int) (hlen : cs.length ≤ 4000) (hcs : ∀ c ∈ cs, ¬ c < 0 ∧ ¬ (255 : Int32) < c) (hn : 4 * text.toList.length ≤ len) (hbig : len ≤ 536870912) (hc : k + 2 ≤ R.cells) (hl : n + (len + 4) ≤ R.slots) (hq : pc + 2 = pc')
    (r : ∀ T' h' a, Pos Z EL n0 p l e R s m args below meth c T' h' (k + 2) (n + (len + 4)) → Ext h h' → Str Z h' a cs → Run p.tables e below F T' (fr m pc' L (.ref a :: S))) : Run p.tables e below F T (fr m pc L S) := by
  subst hq
  have e1 : (Int32.ofNat cs.length).toInt = cs.length := len_toInt (by omega)
  obtain ⟨vm0, k0, locs, X, eT, hS, hk, hC, hF, hO, hZ, hown⟩ := P.opened C
  obtain ⟨a, T', h', k1, b, kb, X', e', E, hS', hk', hZ', hown', r1, r2, r3, r4, r5, r6, hC', hLit, hne, st⟩ := ldcCH X C.1 hZ hown w wS eT hS hk C.2.2.2.2.2.2.2.2 hmem hC.1 (z := Int32.ofNat cs.length) ht (by rw [Int32.lt_iff_toInt_lt, e1]; show ¬ (cs.length : Int) < 0; omega) (by simp only [Int32.toNatClampNeg, e1, List.length_map]; rfl) (g := fr m pc L S) rfl (hb C.2.2.2.1 hd) hn hbig hc hl
  exact Run.go st (r T' h' a ⟨T'.vm, k1, locs, X', e', hS', hk', hC.trans hC', hF, hO.ext E⟩ E ⟨hlen, hcs, r1, r2, b, kb, r3, r4⟩)
/-- what the caller has behind a call of a callee that may intern -/
theorem Pos.back {vm0 : Vm} {k0 : Nat} {locs Lc : List Loc} {U : State} {k' n' : Nat} (hS : s.Since vm0 k0) (hk : k0 ≤ h.size) (eT : T.heap = h) (hC : CHr Z EL s.vm s.heap vm0 h) (hF : Fr n0 locs)
    (X : Stand p l e R ((s.setVm vm0).setVm U.vm) m args below meth c U (locs ++ Lc) k' n') (h2 : (s.setVm vm0).Since U.vm U.heap.size) (g : T.heap.size ≤ U.heap.size) (hL : Fr n0 Lc) (hO : Old Z n0 U.heap) (hR : CHr Z EL vm0 h U.vm U.heap) :
    Pos Z EL n0 p l e R s m args below meth c U U.heap k' n' :=
  ⟨U.vm, U.heap.size, locs ++ Lc, X, rfl, hS.trans h2 (Nat.le_trans hk (eT ▸ g)), Nat.le_refl _, hC.trans hR, hF.app hL, hO⟩
section Calls
variable {y : MethodName} {ybytes : ByteArray} {ymax : Nat} {yret : Option FieldType} {yrm : Room} {argsL rest : List Value} {ps : List FieldType} {rt : Option FieldType} {W idx : Nat}
theorem c_static (C : Ctx Z a0 EL p s m meth c own name bytes maxL ret) (P : Pos Z EL n0 p l e R s m args below meth c T h k n) {Q1 : Value → Heap → Prop} (hd : decode bytes pc = .ok (.invokestatic idx, 3)) (w1 : (Jvm.Cond.methodLink own idx y).before a0 Z = true) (w2 : (Jvm.Cond.static y).before a0 Z = true) (w3 : (Jvm.Cond.initialized y.cls).before a0 Z = true) (w4 : (Jvm.Cond.code y ybytes ymax yret).before a0 Z = true)
    (hy : y.cls ≠ "java/lang/invoke/MethodHandle" ∧ y.cls ≠ "java/lang/invoke/VarHandle") (argsL rest : List Value) (K : Con l Z EL n0 [] y ybytes ymax yret yrm argsL.toArray h (Ret1 Q1)) (hfr : yrm.frames + 1 ≤ R.frames) (hlo : W + (ymax + 11) + yrm.locals ≤ R.locals) (pd : parseMethodDescriptor y.desc = some ⟨ps, rt⟩) (hps : argsL.length = ps.length) (hS : S = argsL.reverse ++ rest)
    (hL : L.length = maxL) (hW : (rest.map fun v => v.category).sum ≤ W) (hc : k + yrm.cells ≤ R.cells) (hl : n + yrm.slots ≤ R.slots) (hq : pc + 3 = pc')
    (r : ∀ T' h' v, Pos Z EL n0 p l e R s m args below meth c T' h' (k + yrm.cells) (n + yrm.slots) → Q1 v h' → Run p.tables e below F T' (fr m pc' L (v :: rest))) : Run p.tables e below F T (fr m pc L S) := by
  subst hq hS
  obtain ⟨vm0, k0, locs, X, eT, hS, hk, hC, hF, hO, hZ, hown⟩ := P.opened C
  obtain ⟨v, vm₁, ⟨U, Ls, kk, nn⟩, -, X', h2, hgr, ⟨Lc, ⟨⟨w, rfl, hQ⟩, hFL, hOU⟩, l1, l2, l3, hR⟩, st⟩ := callSS X C.1 (y := y) hown (mvT hZ w1) (mvT hZ w2) (mvT hZ w3) (mvT hZ w4) hy (backOfSH (W := W) (Q := fun v h' L => Ret1 Q1 v h' ∧ Fr n0 L ∧ Old Z n0 h') K hZ w4 w3 hfr hlo C.2.2.2.2.2.2.2.2 hC.1) (g := fr m pc L (argsL.reverse ++ rest)) rfl (by rw [C.2.2.2.2.1]; exact hL) (argsL := argsL) (rest := rest) (lenOf pd hps) rfl (by show 2 * 0 + _ ≤ _; omega) (hb C.2.2.2.1 hd) (fun _ _ => ⟨rfl, eT, hc, hl⟩)
  dsimp only [Pt.U, Pt.locs, Pt.cells, Pt.slots] at X' h2 hgr l1 l2 l3 hR hQ hOU st
  subst l1 l2 l3
  exact Run.after st (r U U.heap w (Pos.back hS hk eT hC hF X' h2 hgr hFL hOU hR) hQ)
theorem c_special (C : Ctx Z a0 EL p s m meth c own name bytes maxL ret) (P : Pos Z EL n0 p l e R s m args below meth c T h k n) {Q0 : Heap → Prop} {a : Addr} (hname : y.name = "<init>") (hd : decode bytes pc = .ok (.invokespecial idx, 3)) (w1 : (Jvm.Cond.methodLink own idx y).before a0 Z = true) (w2 : (Jvm.Cond.instanceMethod y).before a0 Z = true) (w3 : (Jvm.Cond.initialized y.cls).before a0 Z = true) (w4 : (Jvm.Cond.code y ybytes ymax none).before a0 Z = true)
    (hy : y.cls ≠ "java/lang/invoke/MethodHandle" ∧ y.cls ≠ "java/lang/invoke/VarHandle") (argsL rest : List Value) (K : Con l Z EL n0 [] y ybytes ymax none yrm (.ref a :: argsL).toArray h (Ret0 Q0)) (hfr : yrm.frames + 1 ≤ R.frames) (hlo : W + (ymax + 11) + yrm.locals ≤ R.locals) (pd : parseMethodDescriptor y.desc = some ⟨ps, rt⟩) (hps : argsL.length = ps.length) (hS : S = argsL.reverse ++ .ref a :: rest)
    (hL : L.length = maxL) (hW : (rest.map fun v => v.category).sum ≤ W) (hc : k + yrm.cells ≤ R.cells) (hl : n + yrm.slots ≤ R.slots) (hq : pc + 3 = pc')
    (r : ∀ T' h', Pos Z EL n0 p l e R s m args below meth c T' h' (k + yrm.cells) (n + yrm.slots) → Q0 h' → Run p.tables e below F T' (fr m pc' L rest)) : Run p.tables e below F T (fr m pc L S) := by
  subst hq hS
  obtain ⟨vm0, k0, locs, X, eT, hS, hk, hC, hF, hO, hZ, hown⟩ := P.opened C
  obtain ⟨v, vm₁, ⟨U, Ls, kk, nn⟩, -, X', h2, hgr, ⟨Lc, ⟨⟨rfl, hQ⟩, hFL, hOU⟩, l1, l2, l3, hR⟩, st⟩ := X.specialBackS C.1 (y := y) hname hown (mvT hZ w1) (mvT hZ w2) (mvT hZ w4) hy (backOfSH (W := W) (Q := fun v h' L => Ret0 Q0 v h' ∧ Fr n0 L ∧ Old Z n0 h') K hZ w4 w3 hfr hlo C.2.2.2.2.2.2.2.2 hC.1) (g := fr m pc L (argsL.reverse ++ .ref a :: rest)) rfl (by rw [C.2.2.2.2.1]; exact hL) (Steps.refl _) (a := a) (argsL := argsL) (rest := rest) (lenOf pd hps) rfl (by show 2 * 0 + _ ≤ _; omega) (hb C.2.2.2.1 hd) (fun _ _ => ⟨rfl, eT, hc, hl⟩)
  dsimp only [Pt.U, Pt.locs, Pt.cells, Pt.slots] at X' h2 hgr l1 l2 l3 hR hQ hOU st
  subst l1 l2 l3
  exact Run.after st (r U U.heap (Pos.back hS hk eT hC hF X' h2 hgr hFL hOU hR) hQ)
theorem c_virtual (C : Ctx Z a0 EL p s m meth c own name bytes maxL ret) (P : Pos Z EL n0 p l e R s m args below meth c T h k n) {Q1 : Value → Heap → Prop} {a : Addr} {K0 : String} (hd : decode bytes pc = .ok (.invokevirtual idx, 3)) (w1 : (Jvm.Cond.methodLink own idx y).before a0 Z = true) (w2 : (Jvm.Cond.declares y).before a0 Z = true) (ws : (Jvm.Cond.selects K0 y y).before a0 Z = true) (wm : (Jvm.Cond.instanceMethod y).before a0 Z = true) (w3 : (Jvm.Cond.initialized y.cls).before a0 Z = true) (w4 : (Jvm.Cond.code y ybytes ymax yret).before a0 Z = true)
    (hy : y.cls ≠ "java/lang/invoke/MethodHandle" ∧ y.cls ≠ "java/lang/invoke/VarHandle") (E : Exa Z h a K0) (argsL rest : List Value) (K : Con l Z EL n0 [] y ybytes ymax yret yrm (.ref a :: argsL).toArray h (Ret1 Q1)) (hfr : yrm.frames + 1 ≤ R.frames) (hlo : W + (ymax + 11) + yrm.locals ≤ R.locals) (pd : parseMethodDescriptor y.desc = some ⟨ps, rt⟩) (hps : argsL.length = ps.length) (hS : S = argsL.reverse ++ .ref a :: rest)
    (hL : L.length = maxL) (hW : (rest.map fun v => v.category).sum ≤ W) (hc : k + yrm.cells ≤ R.cells) (hl : n + yrm.slots ≤ R.slots) (hq : pc + 3 = pc')
    (r : ∀ T' h' v, Pos Z EL n0 p l e R s m args below meth c T' h' (k + yrm.cells) (n + yrm.slots) → Q1 v h' → Run p.tables e below F T' (fr m pc' L (v :: rest))) : Run p.tables e below F T (fr m pc L S) := by
  subst hq hS
  obtain ⟨vm0, k0, locs, X, eT, hS, hk, hC, hF, hO, hZ, hown⟩ := P.opened C
  obtain ⟨cq, kq, qa, -, qc⟩ := isOf hZ eT E
  obtain ⟨v, vm₁, ⟨U, Ls, kk, nn⟩, -, X', h2, hgr, ⟨Lc, ⟨⟨w, rfl, hQ⟩, hFL, hOU⟩, l1, l2, l3, hR⟩, st⟩ := X.virtualBackS C.1 (y := y) (z := y) hown (mvT hZ w1) (mvT hZ w2) (notFace_of_selects (args := #[]) (mvT hZ ws)) (mvT hZ ws) (mvT hZ wm) hy (backOfSH (W := W) (Q := fun v h' L => Ret1 Q1 v h' ∧ Fr n0 L ∧ Old Z n0 h') K hZ w4 w3 hfr hlo C.2.2.2.2.2.2.2.2 hC.1) qa qc (g := fr m pc L (argsL.reverse ++ .ref a :: rest)) rfl (by rw [C.2.2.2.2.1]; exact hL) (Steps.refl _) (argsL := argsL) (rest := rest) (lenOf pd hps) rfl (by show 2 * 0 + _ ≤ _; omega) (hb C.2.2.2.1 hd) (fun _ _ => ⟨rfl, eT, hc, hl⟩)
  dsimp only [Pt.U, Pt.locs, Pt.cells, Pt.slots] at X' h2 hgr l1 l2 l3 hR hQ hOU st
  subst l1 l2 l3
  exact Run.after st (r U U.heap w (Pos.back hS hk eT hC hF X' h2 hgr hFL hOU hR) hQ)
end Calls
/-! ### the end -/
theorem r_any (C : Ctx Z a0 EL p s m meth c own name bytes maxL ret) (P : Pos Z EL n0 p l e R s m args below meth c T h k n) {v : Option Value} {g : JFrame} (hv : ret = none → v = none) (hk : k ≤ R.cells) (hn : n ≤ R.slots) (q : Q v h)
    (st : ∀ {vm0 : Vm} {locs : List Loc} {fs : List Frame}, Stand p l e R (s.setVm vm0) m args below meth c T locs k n → (∀ (f : JFrame) (acts : List Action), f.method = m → f.locked = none → f.entered = [] → (doReturn e (T.setTop f) acts v).1 = T.setFrames fs) → Steps p.tables e below (T.setTop g) (T.setFrames fs)) :
    Run p.tables e below (Ends Z EL n0 R below Q s) T g := by
  have hlock : meth.locks = false := C.2.2.2.2.2.2.2.1
  obtain ⟨vm0, k0, locs, X, eT, hS, hk0, hC, hF, hO, hZ, hown⟩ := P.opened C
  obtain ⟨fs, hr, hrun, hended, b1, b2, b3, b4⟩ := X.leaveW (v := v) hS (by rw [eT]; exact hk0) (fun z => hv (by rw [← C.2.2.2.2.2.1]; exact z))
  refine ⟨T.setFrames fs, .returned v, st X hr, hrun, hended, v, locs, rfl, ⟨?_, hF, ?_⟩, ?_, b1, b2, b3, b4.mono hk hn⟩
  · show Q v T.heap; rw [eT]; exact q
  · show Old Z n0 T.heap; rw [eT]; exact hO
  · show CHr Z EL s.vm s.heap T.vm T.heap
    rw [eT]; exact hC.trans (CHv.at X hZ C.2.2.2.2.2.2.2.2 hC.1)
theorem r_void (C : Ctx Z a0 EL p s m meth c own name bytes maxL none) (P : Pos Z EL n0 p l e R s m args below meth c T h k n) (hd : decode bytes pc = .ok (.return_, 1)) (hk : k ≤ R.cells) (hn : n ≤ R.slots) (q : Q none h) :
    Run p.tables e below (Ends Z EL n0 R below Q s) T (fr m pc L []) :=
  r_any C P (fun _ => rfl) hk hn q fun X hr => X.returnOut C.1 C.2.2.2.2.2.1 (hb C.2.2.2.1 hd) hr
theorem r_int (C : Ctx Z a0 EL p s m meth c own name bytes maxL (some ty)) (P : Pos Z EL n0 p l e R s m args below meth c T h k n) {w : Int32} (hti : ty = .int ∨ ty = .boolean ∨ ty = .byte ∨ ty = .char ∨ ty = .short) (hnar : narrow ty (.int w) = .int w) (hd : decode bytes pc = .ok (.ireturn, 1)) (hk : k ≤ R.cells) (hn : n ≤ R.slots) (q : Q (some (.int w)) h) :
    Run p.tables e below (Ends Z EL n0 R below Q s) T (fr m pc L [.int w]) :=
  r_any C P (fun z => by cases z) hk hn q fun X hr => X.ireturnOut C.1 C.2.2.2.2.2.1 hnar hti (hb C.2.2.2.1 hd) hr
theorem r_ref (C : Ctx Z a0 EL p s m meth c own name bytes maxL (some ty)) (P : Pos Z EL n0 p l e R s m args below meth c T h k n) {w : Value} (hw : w.isRef = true) (ht : ty.isReference = true) (hd : decode bytes pc = .ok (.areturn, 1)) (hk : k ≤ R.cells) (hn : n ≤ R.slots) (q : Q (some w) h) :
    Run p.tables e below (Ends Z EL n0 R below Q s) T (fr m pc L [w]) :=
  r_any C P (fun z => by cases z) hk hn q fun X hr => X.areturnOut C.1 hw C.2.2.2.2.2.1 ht (hb C.2.2.2.1 hd) hr
end Walk
end Jvm.Own
namespace Jvm.Own
open Jvm Sem ClassFile Op Lib Jvm.Free Jvm.Stand Jvm.LawKit Jvm.RoadKit Bundle
section Walk2
variable {Z : State} {a0 : Array Value} {EL : List (String × Nat)} {n0 : Nat} {p : Program} {l : Launch} {e : Env} {R : Room} {s : State} {m : MethodId} {args : Array Value} {below : List Frame} {meth : Method} {c : Code} {own name : String} {bytes : ByteArray} {maxL : Nat} {ret : Option FieldType}
  {F : State → Outcome → Prop} {T : State} {h : Heap} {k n : Nat} {pc pc' : Nat} {L L' : List Slot} {S S' : List Value} {Q : Option Value → Heap → Prop}
theorem s_alen (C : Ctx Z a0 EL p s m meth c own name bytes maxL ret) (P : Pos Z EL n0 p l e R s m args below meth c T h k n) {b : Addr} {kb : ClassId} {ty : FieldType} {z : Int32} {vs : List Value} {d : Value} (hd : decode bytes pc = .ok (.arraylength, 1)) (A : Arv Z h b kb ty z vs d) (hq : pc + 1 = pc')
    (r : Run p.tables e below F T (fr m pc' L (.int z :: S))) : Run p.tables e below F T (fr m pc L (.ref b :: S)) := by
  subst hq
  obtain ⟨vm0, k0, locs, X, eT, hS, hk, hC, hF, hO, hZ, hown⟩ := P.opened C
  obtain ⟨cl, A1, -, q2, q3, -⟩ := A
  have e1 := len_of q2 q3
  refine Run.go (fun t q => X.arraylength C.1 (by rw [eT]; exact A1.1) (State.isArrayOf_alike hZ.alike A1.2.1) (g := fr m pc L (.ref b :: S)) rfl rfl (hb C.2.2.2.1 hd) t (by rw [e1]; exact q)) r
end Walk2
theorem fit_ref {v : Value} (hv : v.isRef = true) (t : String) : narrow (.object t) v = v ∧ fits (.object t) v = true := by
  rcases ref_cases hv with rfl | ⟨a, rfl⟩ <;> exact ⟨rfl, rfl⟩
theorem c16_idem (x : Int32) : c16 (c16 x) = c16 x := by
  show (x.toUInt32.toUInt16.toUInt32).toUInt16.toUInt32.toInt32 = _
  rw [UInt16.toUInt16_toUInt32]
theorem c16_nar (x : Int32) : narrow .char (.int (c16 x)) = .int (c16 x) := by
  show Value.int (c16 (c16 x)) = _
  rw [c16_idem]
end Jvm.Own
namespace Jvm.Own
open Jvm Sem ClassFile Op Lib Jvm.Free Jvm.Stand Jvm.LawKit Jvm.RoadKit Bundle
theorem up8 (cs : List Int32) (h : ∀ c ∈ cs, ¬ c < 0 ∧ ¬ (255 : Int32) < c) : ∀ c ∈ cs, ¬ c < 0 ∧ ¬ (65535 : Int32) < c := fun c hc => ⟨(h c hc).1, fun q => (h c hc).2 (by
  rw [Int32.lt_iff_toInt_lt] at q ⊢
  have e1 : (65535 : Int32).toInt = 65535 := rfl
  have e2 : (255 : Int32).toInt = 255 := rfl
  omega)⟩
/-- the low byte as a char: 0 to 255 -/
theorem lat (x : Int32) : ¬ c16 (x &&& (255 : Int32)) < 0 ∧ ¬ (255 : Int32) < c16 (x &&& (255 : Int32)) := by
  have t : ∀ k : Fin 256, ¬ c16 (Int32.ofNat k.val) < 0 ∧ ¬ (255 : Int32) < c16 (Int32.ofNat k.val) := by decide +kernel
  have h : (x &&& 255).toBitVec.toNat < 256 := by
    simp only [Int32.toBitVec_and, BitVec.toNat_and]
    exact Nat.lt_succ_of_le Nat.and_le_right
  have e : (x &&& 255) = Int32.ofNat (x &&& 255).toBitVec.toNat := by
    apply Int32.toBitVec_inj.mp
    show _ = BitVec.ofNat 32 _
    rw [BitVec.ofNat_toNat]; simp
  rw [e]
  exact t ⟨_, h⟩
theorem lat0 : ∀ c ∈ ([] : List Int32), ¬ c < 0 ∧ ¬ (255 : Int32) < c := fun _ h => by cases h
theorem latS {a : Int32} {r : List Int32} (h : ¬ a < 0 ∧ ¬ (255 : Int32) < a) (hr : ∀ c ∈ r, ¬ c < 0 ∧ ¬ (255 : Int32) < c) : ∀ c ∈ a :: r, ¬ c < 0 ∧ ¬ (255 : Int32) < c := fun c hc => (List.mem_cons.mp hc).elim (fun e => e ▸ h) (hr c)
theorem latv {x : Int32} : ¬ c16 (x &&& (255 : Int32)) < 0 ∧ ¬ (255 : Int32) < c16 (x &&& (255 : Int32)) := lat x
theorem le_ (a b : Nat) (h : Nat.ble a b = true) : a ≤ b := Nat.le_of_ble_eq_true h
end Jvm.Own
namespace Jvm.Own
open Jvm Sem ClassFile Op Lib Jvm.Free Jvm.Stand Jvm.LawKit Jvm.RoadKit Bundle
theorem ord_fld {s : State} {args : Array Value} {t : Term} {k : Addr} {C n d : String} {v : Int32} (ek : t.eval args s none [] s = some (.ref k)) (h : (Jvm.Cond.eq (.field t C n d) (.int v)).value args s none s [] = some true) : Fld s s.heap k C n d (.int v) := by
  have q := Cond.eq_int (Cond.before_iff.mpr h) rfl
  exact Fld.start (by simpa [Term.eval, ek] using q)
section Walk3
variable {Z : State} {a0 : Array Value} {EL : List (String × Nat)} {n0 : Nat} {p : Program} {l : Launch} {e : Env} {R : Room} {s : State} {m : MethodId} {args : Array Value} {below : List Frame} {meth : Method} {c : Code} {own name : String} {bytes : ByteArray} {maxL : Nat} {ret : Option FieldType}
  {F : State → Outcome → Prop} {T : State} {h : Heap} {k n : Nat} {pc pc' : Nat} {L L' : List Slot} {S S' : List Value} {Q : Option Value → Heap → Prop}
theorem s_instNo (C : Ctx Z a0 EL p s m meth c own name bytes maxL ret) (P : Pos Z EL n0 p l e R s m args below meth c T h k n) {idx : Nat} {K K' : String} {a : Addr} (hd : decode bytes pc = .ok (.instanceof idx, 3)) (w : (Jvm.Cond.classLink own idx K).before a0 Z = true) (E : Exa Z h a K') (I : ∃ c t, Z.vm.findClass K' = some c ∧ Z.vm.findClass K = some t ∧ Z.vm.assignable c t = false) (hq : pc + 3 = pc')
    (r : ∀ T', Pos Z EL n0 p l e R s m args below meth c T' h k n → Run p.tables e below F T' (fr m pc' L (.int 0 :: S))) : Run p.tables e below F T (fr m pc L (.ref a :: S)) := by
  subst hq
  obtain ⟨vm0, k0, locs, X, eT, hS, hk, hC, hF, hO, hZ, hown⟩ := P.opened C
  obtain ⟨T', X', e', st⟩ := instNo X C.1 hZ hown w eT E I (g := fr m pc L (.ref a :: S)) rfl rfl (hb C.2.2.2.1 hd)
  exact Run.go st (r T' ⟨vm0, k0, locs, X', e', hS, hk, hC, hF, hO⟩)
/-- a String is no object of another class that can be made -/
theorem noIns {K : String} {nf : Nat} (w : (Jvm.Cond.superclass sST "java/lang/Object").before a0 Z = true) (wo : (Jvm.Cond.noSuperclass "java/lang/Object").before a0 Z = true) (wi : (Jvm.Cond.instantiable K nf).before a0 Z = true) (h1 : sST ≠ K) (h2 : "java/lang/Object" ≠ K) : ∃ c t, Z.vm.findClass sST = some c ∧ Z.vm.findClass K = some t ∧ Z.vm.assignable c t = false := by
  obtain ⟨co, ko, o1, o2, o3, -, -⟩ := Cond.noSuperclass_spec wo
  obtain ⟨c, c1⟩ := found_sup w
  obtain ⟨p, k, kp, p1, p2, p3, p4, p5, -, -⟩ := Cond.superclass_spec c1 w
  obtain ⟨t, kt, i1, i2, i3, i4⟩ := Cond.instantiable_spec wi
  cases p1.symm.trans o1
  have n1 := ids_ne c1 i1 h1
  have n2 := ids_ne o1 i1 h2
  refine ⟨c, t, c1, i1, ?_⟩
  have hsub : ∀ fuel, Z.vm.isSubclassAux fuel c t = false := fun fuel => by
    cases fuel with
    | zero => rfl
    | succ f =>
      cases f with
      | zero => simp [Vm.isSubclassAux, n1, p2, p4]
      | succ g => simp [Vm.isSubclassAux, n1, p2, p4, n2, o2, o3]
  have hni : kt.isInterface = false := by
    exact (Bool.or_eq_false_iff.mp i4.1).1
  show Z.vm.assignableAux (255 + 1) c t = false
  simp [Vm.assignableAux, n1, p2, i2, p5, i3, hni, Vm.isSubclass, hsub]
end Walk3
end Jvm.Own
namespace Jvm.Own
theorem c16_and (x : Int32) : c16 (x &&& (255 : Int32)) = x &&& (255 : Int32) := by
  have t : ∀ k : Fin 256, c16 (Int32.ofNat k.val) = Int32.ofNat k.val := by decide +kernel
  have h : (x &&& 255).toBitVec.toNat < 256 := by
    simp only [Int32.toBitVec_and, BitVec.toNat_and]
    exact Nat.lt_succ_of_le Nat.and_le_right
  have e : (x &&& 255) = Int32.ofNat (x &&& 255).toBitVec.toNat := by
    apply Int32.toBitVec_inj.mp
    show _ = BitVec.ofNat 32 _
    rw [BitVec.ofNat_toNat]; simp
  rw [e]
  exact t ⟨_, h⟩
theorem c16_mask (a b : Int32) : c16 (a &&& (255 : Int32)) = c16 (b &&& (255 : Int32)) ↔ (a &&& (255 : Int32)) = (b &&& (255 : Int32)) := by rw [c16_and, c16_and]
end Jvm.Own
namespace Jvm.Own
open Jvm Sem ClassFile Op Lib Jvm.Free Jvm.Stand Jvm.LawKit Jvm.RoadKit Bundle
section Walk4
variable {Z : State} {a0 : Array Value} {EL : List (String × Nat)} {n0 : Nat} {p : Program} {l : Launch} {e : Env} {R : Room} {s : State} {m : MethodId} {args : Array Value} {below : List Frame} {meth : Method} {c : Code} {own name : String} {bytes : ByteArray} {maxL : Nat} {ret : Option FieldType}
  {F : State → Outcome → Prop} {T : State} {h : Heap} {k n : Nat} {pc pc' : Nat} {L L' : List Slot} {S S' : List Value} {Q : Option Value → Heap → Prop}
theorem s_lrem (C : Ctx Z a0 EL p s m meth c own name bytes maxL ret) (P : Pos Z EL n0 p l e R s m args below meth c T h k n) {x y : Int64} (hd : decode bytes pc = .ok (.lrem, 1)) (hy : y ≠ 0) (hq : pc + 1 = pc')
    (r : Run p.tables e below F T (fr m pc' L (.long (x - (x / y) * y) :: S))) : Run p.tables e below F T (fr m pc L (.long y :: .long x :: S)) := by
  subst hq
  obtain ⟨vm0, k0, locs, X, -⟩ := P
  exact Run.go (fun t z => XT.lrem X.here C.1 rfl (hb C.2.2.2.1 hd) rfl hy z) r
theorem s_ldcJ (C : Ctx Z a0 EL p s m meth c own name bytes maxL ret) (P : Pos Z EL n0 p l e R s m args below meth c T h k n) {idx : Nat} {v : Int64} (hd : decode bytes pc = .ok (.ldc2_w idx, 3)) (w : (Jvm.Cond.constantLong own idx v).before a0 Z = true) (hq : pc + 3 = pc')
    (r : Run p.tables e below F T (fr m pc' L (.long v :: S))) : Run p.tables e below F T (fr m pc L S) := by
  subst hq
  obtain ⟨vm0, k0, locs, X, eT, hS, hk, hC, hF, hO, hZ, hown⟩ := P.opened C
  exact Run.go (fun t z => X.ldc2J C.1 hown (mv hZ w) rfl (hb C.2.2.2.1 hd) z) r
theorem s_ldcI (C : Ctx Z a0 EL p s m meth c own name bytes maxL ret) (P : Pos Z EL n0 p l e R s m args below meth c T h k n) {idx : Nat} {v : Int32} (hd : decode bytes pc = .ok (.ldc idx, 2)) (w : (Jvm.Cond.constant own idx v).before a0 Z = true) (hq : pc + 2 = pc')
    (r : Run p.tables e below F T (fr m pc' L (.int v :: S))) : Run p.tables e below F T (fr m pc L S) := by
  subst hq
  obtain ⟨vm0, k0, locs, X, eT, hS, hk, hC, hF, hO, hZ, hown⟩ := P.opened C
  exact Run.go (fun t z => X.ldcI C.1 hown (mv hZ w) rfl (hb C.2.2.2.1 hd) z) r
end Walk4
/-- a long's low byte as a char -/
theorem latJ {x : Int64} : ¬ c16 ((x &&& (255 : Int64)).toInt32) < 0 ∧ ¬ (255 : Int32) < c16 ((x &&& (255 : Int64)).toInt32) := by
  have t : ∀ k : Fin 256, ¬ c16 ((Int64.ofNat k.val).toInt32) < 0 ∧ ¬ (255 : Int32) < c16 ((Int64.ofNat k.val).toInt32) := by decide +kernel
  have h : (x &&& 255).toBitVec.toNat < 256 := by
    simp only [Int64.toBitVec_and, BitVec.toNat_and]
    exact Nat.lt_succ_of_le Nat.and_le_right
  have e : (x &&& 255) = Int64.ofNat (x &&& 255).toBitVec.toNat := by
    apply Int64.toBitVec_inj.mp
    show _ = BitVec.ofNat 64 _
    rw [BitVec.ofNat_toNat]; simp
  rw [e]
  exact t ⟨_, h⟩
end Jvm.Own
namespace Jvm.Own
open Jvm Sem ClassFile Op Lib Jvm.Free Jvm.Stand Jvm.LawKit Jvm.RoadKit Bundle
section Walk5
variable {Z : State} {a0 : Array Value} {EL : List (String × Nat)} {n0 : Nat} {p : Program} {l : Launch} {e : Env} {R : Room} {s : State} {m : MethodId} {args : Array Value} {below : List Frame} {meth : Method} {c : Code} {own name : String} {bytes : ByteArray} {maxL : Nat} {ret : Option FieldType}
  {F : State → Outcome → Prop} {T : State} {h : Heap} {k n : Nat} {pc pc' : Nat} {L L' : List Slot} {S S' : List Value} {Q : Option Value → Heap → Prop}
/-- ldc of a constant that nobody reads -/
theorem s_ldcO (C : Ctx Z a0 EL p s m meth c own name bytes maxL ret) (P : Pos Z EL n0 p l e R s m args below meth c T h k n) {idx len : Nat} {text : String} (hd : decode bytes pc = .ok (.ldc idx, 2)) (w : (Jvm.Cond.stringLink own idx text).before a0 Z = true) (wS : ∀ a ∈ Bundle.stringAtoms, a.before a0 Z = true) (hn : 4 * text.toList.length ≤ len) (hbig : len ≤ 536870912) (hc : k + 2 ≤ R.cells) (hl : n + (len + 4) ≤ R.slots) (hq : pc + 2 = pc')
    (r : ∀ T' h' a, Pos Z EL n0 p l e R s m args below meth c T' h' (k + 2) (n + (len + 4)) → Ext h h' → Run p.tables e below F T' (fr m pc' L (.ref a :: S))) : Run p.tables e below F T (fr m pc L S) := by
  subst hq
  obtain ⟨vm0, k0, locs, X, eT, hS, hk, hC, hF, hO, hZ, hown⟩ := P.opened C
  obtain ⟨a, T', h', k1, X', e', E, hS', hk', hZ', hown', hC', hLit, st⟩ := ldcOH X C.1 hZ hown w wS eT hS hk C.2.2.2.2.2.2.2.2 hC.1 (g := fr m pc L S) rfl (hb C.2.2.2.1 hd) hn hbig hc hl
  exact Run.go st (r T' h' a ⟨T'.vm, k1, locs, X', e', hS', hk', hC.trans hC', hF, hO.ext E⟩ E)
end Walk5
end Jvm.Own
namespace Jvm.Own
open Jvm Sem ClassFile Op Lib Jvm.Free Jvm.Stand Jvm.LawKit Jvm.RoadKit Bundle
/-- a byte[] made by the walk -/
def Bys (Z : State) (n0 : Nat) (h : Heap) (b : Addr) (vs : List Int32) : Prop := n0 ≤ b ∧ vs.length ≤ 4000 ∧ ∃ k, Arv Z h b k .byte (Int32.ofNat vs.length) (vs.map Value.int) (.int 0)
section BysF
variable {Z : State} {a0 : Array Value} {n0 n : Nat} {h h' : Heap} {a b : Addr} {vs : List Int32} {C : String}
theorem Bys.ext (B : Bys Z n0 h b vs) (E : Ext h h') : Bys Z n0 h' b vs := by obtain ⟨h1, h2, k, h3⟩ := B; exact ⟨h1, h2, k, h3.ext E⟩
theorem Bys.keep (B : Bys Z n0 h b vs) (K : Keep h h' [a]) (hne : b ≠ a) : Bys Z n0 h' b vs := by obtain ⟨h1, h2, k, h3⟩ := B; exact ⟨h1, h2, k, h3.keep K (ninS hne nin0)⟩
theorem Bys.wr {sl : Nat} {v : Value} (B : Bys Z n0 h b vs) (W : Wr h h' a sl v) (E : Exa Z h a C) (wi : (Jvm.Cond.instantiable C n).before a0 Z = true) : Bys Z n0 h' b vs := by obtain ⟨h1, h2, k, h3⟩ := B; exact ⟨h1, h2, k, h3.other W (E.neArv h3 wi).symm⟩
end BysF
abbrev wlo (x : Int32) : Int32 := (x >>> ((0 : Int32) &&& 31)).toInt8.toInt32
abbrev whi (x : Int32) : Int32 := (x >>> ((8 : Int32) &&& 31)).toInt8.toInt32
/-- chars as two bytes each -/
def wide : List Int32 → List Int32
  | [] => []
  | c :: r => wlo c :: whi c :: wide r
/-- a String of two bytes a char -/
def Str16 (Z : State) (n0 : Nat) (h : Heap) (a : Addr) (cs : List Int32) : Prop := Exa Z h a sST ∧ Fld Z h a sST "coder" "B" (.int 1) ∧ ∃ t, Fld Z h a sST "value" "[B" (.ref t) ∧ Bys Z n0 h t (wide cs)
theorem Str16.exa {Z : State} {n0 : Nat} {h : Heap} {a : Addr} {cs : List Int32} (S : Str16 Z n0 h a cs) : Exa Z h a sST := S.1
theorem Str16.ext {Z : State} {n0 : Nat} {h h' : Heap} {a : Addr} {cs : List Int32} (S : Str16 Z n0 h a cs) (E : Ext h h') : Str16 Z n0 h' a cs := by obtain ⟨h1, h2, t, h3, h4⟩ := S; exact ⟨h1.ext E, h2.ext E, t, h3.ext E, h4.ext E⟩
theorem b8_idem (x : Int32) : (x.toInt8.toInt32).toInt8.toInt32 = x.toInt8.toInt32 := by rw [Int8.toInt8_toInt32]
theorem c16_rng {x : Int32} (q : c16 x = x) : ¬ x < 0 ∧ ¬ (65535 : Int32) < x := by
  have e : x.toBitVec.toNat < 65536 := by
    rw [← q]
    show ((x.toBitVec.setWidth 16).setWidth 32).toNat < 65536
    rw [BitVec.toNat_setWidth, BitVec.toNat_setWidth]
    omega
  have e1 : x.toInt = x.toBitVec.toNat := by
    show x.toBitVec.toInt = _
    rw [BitVec.toInt_eq_toNat_cond]
    split <;> omega
  constructor
  · rw [Int32.lt_iff_toInt_lt, e1]; show ¬ (x.toBitVec.toNat : Int) < 0; omega
  · rw [Int32.lt_iff_toInt_lt, e1]; show ¬ (65535 : Int) < (x.toBitVec.toNat : Int); omega
theorem keepT {h h1 h2 : Heap} {ws : List Addr} (K : Keep h h1 ws) (K' : Keep h1 h2 ws) : Keep h h2 ws := K.trans K' fun x hx => Or.inl hx
section ChsF
variable {Z : State} {n0 : Nat} {h h' : Heap} {a b : Addr} {vs ws : List Int32}
theorem Chs.keep (B : Chs Z n0 h b vs) (K : Keep h h' [a]) (hne : b ≠ a) : Chs Z n0 h' b vs := by obtain ⟨h1, h2, k, h3⟩ := B; exact ⟨h1, h2, k, h3.keep K (ninS hne nin0)⟩
theorem Chs.neB (B : Chs Z n0 h b vs) (D : Bys Z n0 h a ws) : b ≠ a := fun q => by
  subst q
  obtain ⟨-, -, k, c, ⟨A1, ⟨-, kA, hkA, compA, hkindA⟩, -⟩, -⟩ := B
  obtain ⟨-, -, k', c', ⟨A1', ⟨-, kA', hkA', compA', hkindA'⟩, -⟩, -⟩ := D
  cases A1.symm.trans A1'
  cases hkA.symm.trans hkA'
  have := hkindA.symm.trans hkindA'
  cases this
end ChsF
theorem mod5 (x : Int32) : (x &&& (2147483647 : Int32)) % (5 : Int32) = 0 ∨ (x &&& (2147483647 : Int32)) % (5 : Int32) = 1 ∨ (x &&& (2147483647 : Int32)) % (5 : Int32) = 2 ∨ (x &&& (2147483647 : Int32)) % (5 : Int32) = 3 ∨ (x &&& (2147483647 : Int32)) % (5 : Int32) = 4 := by
  have h0 : (x &&& 2147483647).toBitVec.toNat < 2147483648 := by
    simp only [Int32.toBitVec_and, BitVec.toNat_and]
    exact Nat.lt_succ_of_le Nat.and_le_right
  have h1 : 0 ≤ (x &&& 2147483647).toInt := by
    show 0 ≤ (x &&& 2147483647).toBitVec.toInt
    rw [BitVec.toInt_eq_toNat_cond]
    split <;> omega
  have e : ((x &&& 2147483647) % 5).toInt = (x &&& 2147483647).toInt % 5 := by
    rw [Int32.toInt_mod, Int.tmod_eq_emod_of_nonneg h1]; rfl
  have r : ((x &&& 2147483647) % 5).toInt = 0 ∨ ((x &&& 2147483647) % 5).toInt = 1 ∨ ((x &&& 2147483647) % 5).toInt = 2 ∨ ((x &&& 2147483647) % 5).toInt = 3 ∨ ((x &&& 2147483647) % 5).toInt = 4 := by rw [e]; omega
  rcases r with q | q | q | q | q
  · exact Or.inl (Int32.toInt_inj.mp q)
  · exact Or.inr (Or.inl (Int32.toInt_inj.mp q))
  · exact Or.inr (Or.inr (Or.inl (Int32.toInt_inj.mp q)))
  · exact Or.inr (Or.inr (Or.inr (Or.inl (Int32.toInt_inj.mp q))))
  · exact Or.inr (Or.inr (Or.inr (Or.inr (Int32.toInt_inj.mp q))))
abbrev pairc (lo hi : Int32) : Int32 := c16 (((lo &&& (255 : Int32)) <<< ((0 : Int32) &&& 31)) ||| ((hi &&& (255 : Int32)) <<< ((8 : Int32) &&& 31)))
/-- a byte[] of one sign or more is no array of the held empty constant -/
theorem safe_bytes {Z : State} {a0 : Array Value} {EL : List (String × Nat)} {vm : Vm} {h : Heap} {x : Addr} {cl : Cell} (hZ : Z.Warmed39 vm) (hE : ∀ p ∈ EL, (Jvm.Cond.stringLink p.1 p.2 "").before a0 Z = true) (A : Arr Z h x cl .byte) (hz : 0 < cl.slots.size) : Safe Z EL vm h x := fun B => by
  have hal := hZ.alike
  obtain ⟨A1, ⟨-, kA, hkA, compA, hkindA⟩, -⟩ := A
  obtain ⟨kA', hkA', ekA⟩ := hal.2.2 _ _ hkA
  obtain ⟨p, hp, u, a, hbk, q, -, F, rfl | rfl⟩ := B
  · cases (show h[q.sa]? = some q.sC from F.ha).symm.trans A1
    obtain ⟨cS, ⟨-, -, e⟩, ⟨kS, g1, g2, -⟩, -⟩ := F
    subst e
    cases (show vm.classes[q.sC.cls]? = some kS from g1).symm.trans hkA'
    rw [ekA] at g2
    have := hkindA.symm.trans g2
    cases this
  · cases (show h[q.sd]? = some q.SA from F.hd).symm.trans A1
    obtain ⟨cS, -, -, -, hby⟩ := F
    obtain ⟨c, k, cf, i, b1, b2, b3, b4, b5, -⟩ := hbk
    have wl' : (Jvm.Cond.stringLink p.1 p.2 "").before a0 (Wst Z vm h) = true := mvS (s := { Z with heap := h }) hZ (hE p hp)
    obtain ⟨k', cf', i', u', c1, c2, c3, c4, -, c6, -⟩ := Cond.stringLink_spec (s := Wst Z vm h) b1 wl'
    cases (show vm.classes[c]? = some k' from c1).symm.trans b2
    cases c2.symm.trans b3
    cases c3.symm.trans b4
    cases c4.symm.trans b5
    have e := Jvm.ClassFile.units_of_text c6 (by decide)
    have e0 : u = #[] := by
      cases u; simp at e; simp [e]
    rw [hby, e0] at hz
    exact absurd hz (by decide +kernel)
section WalkE
variable {Z : State} {a0 : Array Value} {EL : List (String × Nat)} {n0 : Nat} {p : Program} {l : Launch} {e : Env} {R : Room} {s : State} {m : MethodId} {args : Array Value} {below : List Frame} {meth : Method} {c : Code} {own name : String} {bytes : ByteArray} {maxL : Nat} {ret : Option FieldType}
  {F : State → Outcome → Prop} {T : State} {h : Heap} {k n : Nat} {pc pc' : Nat} {L L' : List Slot} {S S' : List Value} {Q : Option Value → Heap → Prop}
theorem s_newB (C : Ctx Z a0 EL p s m meth c own name bytes maxL ret) (P : Pos Z EL n0 p l e R s m args below meth c T h k n) {z : Int32} (len : Nat) (hd : decode bytes pc = .ok (.newarray .byte, 2)) (w : (Jvm.Cond.arrayClass .byte).before a0 Z = true)
    (hz : z = Int32.ofNat len) (hlen : len ≤ 4000) (hc : k + 1 ≤ R.cells) (hl : n + len ≤ R.slots) (hq : pc + 2 = pc')
    (r : ∀ T' h', Pos Z EL n0 p l e R s m args below meth c T' h' (k + 1) (n + len) → Ext h h' → Bys Z n0 h' h.size (List.replicate len 0) → Run p.tables e below F T' (fr m pc' L (.ref h.size :: S))) : Run p.tables e below F T (fr m pc L (.int z :: S)) := by
  subst hq
  have ge := P.n0le
  have e1 : z.toInt = len := by rw [hz]; exact len_toInt (by omega)
  have hnn : ¬ z < 0 := by rw [Int32.lt_iff_toInt_lt, e1]; show ¬ (len : Int) < 0; omega
  have hcl : z.toNatClampNeg = len := by simp only [Int32.toNatClampNeg, e1]; rfl
  obtain ⟨vm0, k0, locs, X, eT, hS, hk, hC, hF, hO, hZ, hown⟩ := P.opened C
  obtain ⟨T', h', cA, X', e', E, A, st⟩ := newP X C.1 hZ (aty := .byte) w eT (n := z) (rest := S) (g := fr m pc L (.int z :: S)) rfl (hb C.2.2.2.1 hd) rfl hnn (cap := len) (Nat.le_of_eq hcl) (by omega) hc hl
  have V0 : Arv Z h' h.size cA .byte z [] (.int 0) := Arv.new A hnn
  have V : Arv Z h' h.size cA .byte z ((List.replicate len (0 : Int32)).map Value.int) (.int 0) := V0.pad (fun i => by
    rw [List.map_replicate]; exact pad_rep [] (Value.int 0) len i)
  have V' : Arv Z h' h.size cA .byte (Int32.ofNat (List.replicate len (0 : Int32)).length) ((List.replicate len (0 : Int32)).map Value.int) (.int 0) := by rw [List.length_replicate, ← hz]; exact V
  exact Run.go st (r T' h' ⟨vm0, k0, locs, X', e', hS, Nat.le_trans hk E.1, hC.trans (CHr.ext E hC.1), hF, hO.ext E⟩ E ⟨ge, by rw [List.length_replicate]; exact hlen, cA, V'⟩)
theorem s_stB (C : Ctx Z a0 EL p s m meth c own name bytes maxL ret) (P : Pos Z EL n0 p l e R s m args below meth c T h k n) (hE : ∀ p ∈ EL, (Jvm.Cond.stringLink p.1 p.2 "").before a0 Z = true) {j x : Int32} {b : Addr} {vs : List Int32} (i : Nat) (hd : decode bytes pc = .ok (.bastore, 1)) (B : Bys Z n0 h b vs) (hj : j = Int32.ofNat i) (hi : i < vs.length) (hx : x.toInt8.toInt32 = x) (hq : pc + 1 = pc')
    (r : ∀ T' h', Pos Z EL n0 p l e R s m args below meth c T' h' k n → Keep h h' [b] → Bys Z n0 h' b (vs.set i x) → Run p.tables e below F T' (fr m pc' L S)) : Run p.tables e below F T (fr m pc L (.int x :: .int j :: .ref b :: S)) := by
  subst hq hj
  obtain ⟨ge, hlen, kb, cl, A, q1, q2, q3, H, G⟩ := B
  have e1 : (Int32.ofNat i).toInt = i := len_toInt (by omega)
  have e2 : (Int32.ofNat vs.length).toInt = vs.length := len_toInt (by omega)
  have e3 : cl.slots.size = vs.length := by rw [q2]; simp only [Int32.toNatClampNeg, e2]; rfl
  have hin : ¬ ((Int32.ofNat i) < 0 ∨ cl.slots.size ≤ (Int32.ofNat i).toNatClampNeg) := inb_of q2 ⟨by rw [Int32.lt_iff_toInt_lt, e1]; show ¬ (i : Int) < 0; omega, by rw [Int32.lt_iff_toInt_lt, e1, e2]; omega⟩
  obtain ⟨vm0, k0, locs, X, eT, hS, hk, hC, hF, hO, hZ, hown⟩ := P.opened C
  obtain ⟨T', h', X', e', W, st⟩ := stB X C.1 hZ eT A (j := Int32.ofNat i) (x := x) hin (g := fr m pc L (.int x :: .int (Int32.ofNat i) :: .ref b :: S)) rfl rfl (hb C.2.2.2.1 hd)
  have hnar : nar .byte x = x := hx
  have hci : (Int32.ofNat i).toNatClampNeg = i := by simp only [Int32.toNatClampNeg, e1]; rfl
  have V := Arv.set A q1 q2 q3 H G (fits_nar_byte x) W i hci (by simpa using hi)
  have hz : h'.size = h.size := W.size
  rw [hx, ← List.map_set] at V
  exact Run.go st (r T' h' ⟨vm0, k0, _, X', e', hS, by rw [hz]; exact hk, hC.trans (CHr.wr W (safe_bytes hZ hE A (by omega)) hC.1), Fr.snoc X' hF ge, hO.wr W ge⟩ (Keep.of_wr W) ⟨ge, by simpa using hlen, kb, by simpa using V⟩)
theorem s_ldB (C : Ctx Z a0 EL p s m meth c own name bytes maxL ret) (P : Pos Z EL n0 p l e R s m args below meth c T h k n) {j : Int32} {b : Addr} {vs : List Int32} (i : Nat) {x : Int32} (hd : decode bytes pc = .ok (.baload, 1)) (B : Bys Z n0 h b vs) (hj : j = Int32.ofNat i) (hx : vs[i]? = some x) (hq : pc + 1 = pc')
    (r : Run p.tables e below F T (fr m pc' L (.int x :: S))) : Run p.tables e below F T (fr m pc L (.int j :: .ref b :: S)) := by
  subst hq hj
  obtain ⟨ge, hlen, kb, cl, A, q1, q2, q3, H, G⟩ := B
  have hi : i < vs.length := (List.getElem?_eq_some_iff.mp hx).1
  have e1 : (Int32.ofNat i).toInt = i := len_toInt (by omega)
  have e2 : (Int32.ofNat vs.length).toInt = vs.length := len_toInt (by omega)
  have e3 : cl.slots.size = vs.length := by rw [q2]; simp only [Int32.toNatClampNeg, e2]; rfl
  have hin : ¬ ((Int32.ofNat i) < 0 ∨ cl.slots.size ≤ (Int32.ofNat i).toNatClampNeg) := inb_of q2 ⟨by rw [Int32.lt_iff_toInt_lt, e1]; show ¬ (i : Int) < 0; omega, by rw [Int32.lt_iff_toInt_lt, e1, e2]; omega⟩
  have hci : (Int32.ofNat i).toNatClampNeg = i := by simp only [Int32.toNatClampNeg, e1]; rfl
  have hv : cl.slots[(Int32.ofNat i).toNatClampNeg]? = some (.int x) := by
    rw [hci, H i (by omega)]; simp [List.getD, hx]
  obtain ⟨vm0, k0, locs, X, eT, hS, hk, hC, hF, hO, hZ, hown⟩ := P.opened C
  exact Run.go (fun t q => X.baloadBytes C.1 (by rw [eT]; exact A.1) (State.isArrayOf_alike hZ.alike A.2.1) A.2.2 hin hv (g := fr m pc L (.int (Int32.ofNat i) :: .ref b :: S)) rfl rfl (hb C.2.2.2.1 hd) t q) r
theorem s_ldC (C : Ctx Z a0 EL p s m meth c own name bytes maxL ret) (P : Pos Z EL n0 p l e R s m args below meth c T h k n) {j : Int32} {b : Addr} {vs : List Int32} (i : Nat) {x : Int32} (hd : decode bytes pc = .ok (.caload, 1)) (B : Chs Z n0 h b vs) (hj : j = Int32.ofNat i) (hx : vs[i]? = some x) (hq : pc + 1 = pc')
    (r : Run p.tables e below F T (fr m pc' L (.int x :: S))) : Run p.tables e below F T (fr m pc L (.int j :: .ref b :: S)) := by
  subst hq hj
  obtain ⟨ge, hlen, kb, cl, A, q1, q2, q3, H, G⟩ := B
  have hi : i < vs.length := (List.getElem?_eq_some_iff.mp hx).1
  have e1 : (Int32.ofNat i).toInt = i := len_toInt (by omega)
  have e2 : (Int32.ofNat vs.length).toInt = vs.length := len_toInt (by omega)
  have e3 : cl.slots.size = vs.length := by rw [q2]; simp only [Int32.toNatClampNeg, e2]; rfl
  have hin : ¬ ((Int32.ofNat i) < 0 ∨ cl.slots.size ≤ (Int32.ofNat i).toNatClampNeg) := inb_of q2 ⟨by rw [Int32.lt_iff_toInt_lt, e1]; show ¬ (i : Int) < 0; omega, by rw [Int32.lt_iff_toInt_lt, e1, e2]; omega⟩
  have hci : (Int32.ofNat i).toNatClampNeg = i := by simp only [Int32.toNatClampNeg, e1]; rfl
  have hv : cl.slots[(Int32.ofNat i).toNatClampNeg]? = some (.int x) := by
    rw [hci, H i (by omega)]; simp [List.getD, hx]
  obtain ⟨vm0, k0, locs, X, eT, hS, hk, hC, hF, hO, hZ, hown⟩ := P.opened C
  exact Run.go (fun t q => X.caload C.1 (by rw [eT]; exact A.1) (State.isArrayOf_alike hZ.alike A.2.1) A.2.2 hin hv (g := fr m pc L (.int (Int32.ofNat i) :: .ref b :: S)) rfl rfl (hb C.2.2.2.1 hd) t q) r
theorem s_alenB (C : Ctx Z a0 EL p s m meth c own name bytes maxL ret) (P : Pos Z EL n0 p l e R s m args below meth c T h k n) {b : Addr} {vs : List Int32} (z : Int32) (hd : decode bytes pc = .ok (.arraylength, 1)) (B : Bys Z n0 h b vs) (hz : z = Int32.ofNat vs.length) (hq : pc + 1 = pc')
    (r : Run p.tables e below F T (fr m pc' L (.int z :: S))) : Run p.tables e below F T (fr m pc L (.ref b :: S)) := by
  subst hz; obtain ⟨-, -, k, A⟩ := B; exact s_alen C P hd A hq r
theorem s_alenC (C : Ctx Z a0 EL p s m meth c own name bytes maxL ret) (P : Pos Z EL n0 p l e R s m args below meth c T h k n) {b : Addr} {vs : List Int32} (z : Int32) (hd : decode bytes pc = .ok (.arraylength, 1)) (B : Chs Z n0 h b vs) (hz : z = Int32.ofNat vs.length) (hq : pc + 1 = pc')
    (r : Run p.tables e below F T (fr m pc' L (.int z :: S))) : Run p.tables e below F T (fr m pc L (.ref b :: S)) := by
  subst hz; obtain ⟨-, -, k, A⟩ := B; exact s_alen C P hd A hq r
/-- a putfield of a String's constructor, ahead of its value -/
theorem s_putS (C : Ctx Z a0 EL p s m meth c own name bytes maxL ret) (P : Pos Z EL n0 p l e R s m args below meth c T h k n) {idx kk : Nat} {nm d : String} {a : Addr} {v old : Value} {ty : FieldType} (hd : decode bytes pc = .ok (.putfield idx, 3)) (w : (Jvm.Cond.fieldLink own idx own nm d).before a0 Z = true)
    (ge : n0 ≤ a) (G : Fld Z h a own nm d old) (E : Exa Z h a sST) (V : Fld Z h a sST "value" "[B" .null) (wl : (Jvm.Cond.laysFinal sST own nm d).before a0 Z = true) (hname : name = "<init>") (wi : (Jvm.Cond.instantiable sST kk).before a0 Z = true) (hty : parseFieldDescriptor d = some ty) (hn : narrow ty v = v) (hf : fits ty v = true) (hq : pc + 3 = pc')
    (r : ∀ T' h', Pos Z EL n0 p l e R s m args below meth c T' h' k n → Wr h h' a (RoadKit.slotOf Z own nm d) v → Run p.tables e below F T' (fr m pc' L S)) : Run p.tables e below F T (fr m pc L (v :: .ref a :: S)) := by
  subst hq
  obtain ⟨vm0, k0, locs, X, eT, hS, hk, hC, hF, hO, hZ, hown⟩ := P.opened C
  obtain ⟨T', h', X', e', W, st⟩ := putF X C.1 hZ hown (host := "") (Or.inl w) Via.refl eT G E (Or.inr ⟨wl, rfl, by rw [C.2.2.2.2.2.2.1]; exact hname⟩) wi hty hn hf (g := fr m pc L (v :: .ref a :: S)) rfl rfl (hb C.2.2.2.1 hd)
  have hz : h'.size = h.size := W.size
  exact Run.go st (r T' h' ⟨vm0, k0, _, X', e', hS, by rw [hz]; exact hk, hC.trans (CHr.wr W (safe_blank hZ.alike E V) hC.1), Fr.snoc X' hF ge, hO.wr W ge⟩ W)
section Calls
variable {y : MethodName} {ybytes : ByteArray} {ymax : Nat} {yret : Option FieldType} {yrm : Room} {argsL rest : List Value} {ps : List FieldType} {rt : Option FieldType} {W idx : Nat}
theorem c_static0 (C : Ctx Z a0 EL p s m meth c own name bytes maxL ret) (P : Pos Z EL n0 p l e R s m args below meth c T h k n) {Q0 : Heap → Prop} (hd : decode bytes pc = .ok (.invokestatic idx, 3)) (w1 : (Jvm.Cond.methodLink own idx y).before a0 Z = true) (w2 : (Jvm.Cond.static y).before a0 Z = true) (w3 : (Jvm.Cond.initialized y.cls).before a0 Z = true) (w4 : (Jvm.Cond.code y ybytes ymax none).before a0 Z = true)
    (hy : y.cls ≠ "java/lang/invoke/MethodHandle" ∧ y.cls ≠ "java/lang/invoke/VarHandle") (argsL rest : List Value) (K : Con l Z EL n0 [] y ybytes ymax none yrm argsL.toArray h (Ret0 Q0)) (hfr : yrm.frames + 1 ≤ R.frames) (hlo : W + (ymax + 11) + yrm.locals ≤ R.locals) (pd : parseMethodDescriptor y.desc = some ⟨ps, rt⟩) (hps : argsL.length = ps.length) (hS : S = argsL.reverse ++ rest)
    (hL : L.length = maxL) (hW : (rest.map fun v => v.category).sum ≤ W) (hc : k + yrm.cells ≤ R.cells) (hl : n + yrm.slots ≤ R.slots) (hq : pc + 3 = pc')
    (r : ∀ T' h', Pos Z EL n0 p l e R s m args below meth c T' h' (k + yrm.cells) (n + yrm.slots) → Q0 h' → Run p.tables e below F T' (fr m pc' L rest)) : Run p.tables e below F T (fr m pc L S) := by
  subst hq hS
  obtain ⟨vm0, k0, locs, X, eT, hS, hk, hC, hF, hO, hZ, hown⟩ := P.opened C
  obtain ⟨v, vm₁, ⟨U, Ls, kk, nn⟩, -, X', h2, hgr, ⟨Lc, ⟨⟨rfl, hQ⟩, hFL, hOU⟩, l1, l2, l3, hR⟩, st⟩ := callSS X C.1 (y := y) hown (mvT hZ w1) (mvT hZ w2) (mvT hZ w3) (mvT hZ w4) hy (backOfSH (W := W) (Q := fun v h' L => Ret0 Q0 v h' ∧ Fr n0 L ∧ Old Z n0 h') K hZ w4 w3 hfr hlo C.2.2.2.2.2.2.2.2 hC.1) (g := fr m pc L (argsL.reverse ++ rest)) rfl (by rw [C.2.2.2.2.1]; exact hL) (argsL := argsL) (rest := rest) (lenOf pd hps) rfl (by show 2 * 0 + _ ≤ _; omega) (hb C.2.2.2.1 hd) (fun _ _ => ⟨rfl, eT, hc, hl⟩)
  dsimp only [Pt.U, Pt.locs, Pt.cells, Pt.slots] at X' h2 hgr l1 l2 l3 hR hQ hOU st
  subst l1 l2 l3
  exact Run.after st (r U U.heap (Pos.back hS hk eT hC hF X' h2 hgr hFL hOU hR) hQ)
end Calls
end WalkE
end Jvm.Own
/- laws to paste: Road.backV, pair_says, shr0 (cut by pick.py; bodies as the Statement names them) -/
namespace Jvm.Pilot.@@N@@
namespace StrChars
open Jvm Sem ClassFile Op Lib Jvm.Stand Jvm.Free.XT Jvm.Free.ALB Jvm.Free.JM Jvm.Free
open Jvm.Lib.Cold (StaticIs)
/-- a char array whose places are chars -/
def Ch (a : Addr) (A : Cell) (U : State) : Prop := Arr .char a A U ∧ Typed .char A
theorem Ch.mv {a : Addr} {A : Cell} {U U' : State} (h : Ch a A U) (hal : U.vm.Alike U'.vm) (hh : U'.heap = U.heap) : Ch a A U' := ⟨h.1.mv hal hh, h.2⟩
theorem Ch.keep {a : Addr} {A : Cell} {U U' : State} (h : Ch a A U) (hal : U.vm.Alike U'.vm) (hk : U'.heap[a]? = some A) : Ch a A U' := ⟨h.1.keep hal hk, h.2⟩
/-- what place i of a char[]'s cell holds -/
def cv (A : Cell) (i : Nat) : Int32 := match A.slots[i]? with | some (.int x) => x | _ => 0
theorem Ch.get {a : Addr} {A : Cell} {U : State} (h : Ch a A U) {i : Nat} (hi : i < A.slots.size) : A.slots[i]? = some (.int (cv A i)) := by
  have e := Array.getElem?_eq_getElem hi
  have f := h.2 i _ e
  unfold cv; rw [e]
  generalize A.slots[i] = v at f
  cases v <;> simp [fits] at f ⊢
/-- the byte that i2b leaves of a char -/
def lo8 (x : Int32) : Int32 := x.toInt8.toInt32
theorem fits_lo8 (y : Int32) : fits .byte (.int (lo8 y)) = true := by
  have h1 := y.toInt8.le_toInt
  have h2 := y.toInt8.toInt_lt
  simp only [lo8, fits, Bool.and_eq_true, decide_eq_true_eq, Int32.le_iff_toInt_le, Int8.toInt_toInt32, show (-128 : Int32).toInt = -128 from by decide, show (127 : Int32).toInt = 127 from by decide]
  omega
/-- A' is A but that each place j of lo .. hi - 1 holds f j -/
def Laid (A A' : Cell) (lo hi : Nat) (f : Nat → Value) : Prop := A'.cls = A.cls ∧ A'.vm = A.vm ∧ A'.slots.size = A.slots.size ∧ ∀ i, A'.slots[i]? = if lo ≤ i ∧ i < hi then some (f i) else A.slots[i]?
theorem Laid.zero (A : Cell) (lo : Nat) (f : Nat → Value) : Laid A A lo (lo + 0) f := ⟨rfl, rfl, rfl, fun i => by rw [if_neg (by omega)]⟩
theorem Laid.step {A Ak : Cell} {lo k : Nat} {f : Nat → Value} {v : Value} (h : Laid A Ak lo k f) (hlo : lo ≤ k) (hk : k < Ak.slots.size) (hv : v = f k) : Laid A (Ak.setSlot k v) lo (k + 1) f := by
  refine ⟨h.1, h.2.1, by simpa [Cell.setSlot] using h.2.2.1, fun i => ?_⟩
  by_cases e : k = i
  · subst e; rw [Cell.slots_setSlot_self v hk, if_pos (by omega), hv]
  · rw [Cell.slots_setSlot_ne v e, h.2.2.2 i]
    by_cases q : lo ≤ i ∧ i < k
    · rw [if_pos q, if_pos (by omega)]
    · rw [if_neg q, if_neg (by omega)]
def U16 : String := "java/lang/StringUTF16"
namespace Cmp5
def yN : MethodName := ⟨"java/lang/StringUTF16", "compress", "([CI[BII)I"⟩
abbrev yB : ByteArray := jdk_52_method_21_code
theorem d0 : decode yB 0 = .ok (.iconst 0, 1) := by decide +kernel
theorem d1 : decode yB 1 = .ok (.istore 5, 2) := by decide +kernel
theorem d3 : decode yB 3 = .ok (.iload 5, 2) := by decide +kernel
theorem d5 : decode yB 5 = .ok (.iload 4, 2) := by decide +kernel
theorem d7 : decode yB 7 = .ok (.if_icmp (.ge) 37, 3) := by decide +kernel
theorem d10 : decode yB 10 = .ok (.aload_n 0, 1) := by decide +kernel
theorem d11 : decode yB 11 = .ok (.iload_n 1, 1) := by decide +kernel
theorem d12 : decode yB 12 = .ok (.caload, 1) := by decide +kernel
theorem d13 : decode yB 13 = .ok (.istore 6, 2) := by decide +kernel
theorem d15 : decode yB 15 = .ok (.iload 6, 2) := by decide +kernel
theorem d17 : decode yB 17 = .ok (.sipush 255, 3) := by decide +kernel
theorem d20 : decode yB 20 = .ok (.if_icmp (.le) 6, 3) := by decide +kernel
theorem d26 : decode yB 26 = .ok (.aload_n 2, 1) := by decide +kernel
theorem d27 : decode yB 27 = .ok (.iload_n 3, 1) := by decide +kernel
theorem d28 : decode yB 28 = .ok (.iload 6, 2) := by decide +kernel
theorem d30 : decode yB 30 = .ok (.i2b, 1) := by decide +kernel
theorem d31 : decode yB 31 = .ok (.bastore, 1) := by decide +kernel
theorem d32 : decode yB 32 = .ok (.iinc 1 1, 3) := by decide +kernel
theorem d35 : decode yB 35 = .ok (.iinc 3 1, 3) := by decide +kernel
theorem d38 : decode yB 38 = .ok (.iinc 5 1, 3) := by decide +kernel
theorem d41 : decode yB 41 = .ok (.goto (-38), 3) := by decide +kernel
theorem d44 : decode yB 44 = .ok (.iload 4, 2) := by decide +kernel
theorem d46 : decode yB 46 = .ok (.ireturn, 1) := by decide +kernel
def site : List Cond := []
def tab : Cond := tabOf yN yB 7 (some .int) site
def P (b : Addr) (A : Cell) (d : Addr) (B : Cell) (o q len : Nat) (args : Array Value) (s : State) : Prop := args = #[.ref b, .int (Int32.ofNat o), .ref d, .int (Int32.ofNat q), .int (Int32.ofNat len)] ∧ Ch b A s ∧ Arr .byte d B s ∧ b ≠ d ∧ o + len ≤ A.slots.size ∧ q + len ≤ B.slots.size ∧ ∀ i, i < len → ¬ 255 < cv A (o + i)
def E (b : Addr) (A : Cell) (d : Addr) (B : Cell) (o q len : Nat) (r : Option Value) (s u : State) : Prop := r = some (.int (Int32.ofNat len)) ∧ ∃ B', Put d B' s u ∧ Laid B B' q (q + len) (fun j => Value.int (lo8 (cv A (o + (j - q)))))
/-- no char of the range above 255: len; the places written hold each char's low byte -/
theorem law (l : Launch) (b : Addr) (A : Cell) (d : Addr) (B : Cell) (o q len : Nat) : Law l yN 5 5 0 0 yB 7 (some .int) site (P b A d B o q len) (E b A d B o q len) (copyLocs d q len) 0 0 := by
  refine Law.of_walk (plainFor_of_name (by decide +kernel)) (by decide +kernel) (by decide +kernel) (by decide) (fun _ _ h => by rw [h.1]; rfl) (fun _ U U' hal hh h => ⟨h.1, h.2.1.mv hal hh, h.2.2.1.mv hal hh, h.2.2.2⟩) (fun r U U' V V' h1 hal h2 h => ⟨h.1, h.2.elim fun B' q => ⟨B', q.1.mv h1 h2, q.2⟩⟩) ?_
  intro p e s m args below meth c s₁ X0 hexec hbytes hml hret hlk hnm hown hh0 W hP
  obtain ⟨rfl, hA, hB, hne, l1, l2, hp⟩ := hP
  have c1 : Steps p.tables e below (s₁.setTop (entryFrame m #[.ref b, .int (Int32.ofNat o), .ref d, .int (Int32.ofNat q), .int (Int32.ofNat len)] 7)) (s₁.setTop (mkF m 0 #[.val (.ref b), .val (.int (Int32.ofNat o)), .val (.ref d), .val (.int (Int32.ofNat q)), .val (.int (Int32.ofNat len)), .unset, .unset] [])) := entry rfl
  have hA0 := hA.1.mv X0.warmed.alike hh0
  have hB0 := hB.mv X0.warmed.alike hh0
  have a31 := hA.1.2.2.2
  have c2 : Steps p.tables e below (s₁.setTop (entryFrame m #[.ref b, .int (Int32.ofNat o), .ref d, .int (Int32.ofNat q), .int (Int32.ofNat len)] 7)) (s₁.setTop (mkF m 3 #[.val (.ref b), .val (.int (Int32.ofNat o)), .val (.ref d), .val (.int (Int32.ofNat q)), .val (.int (Int32.ofNat len)), .val (.int 0), .unset] [])) := c1.trans (by
    refine iconstV X0.here hexec rfl 0 (hb hbytes d0) (by decide) ?_
    refine XS.istore X0.here hexec rfl (hb hbytes d1) rfl rfl ?_
    exact Steps.refl _)
  have loop : ∀ (r i : Nat), i + r = len → ∀ (z : Slot), (z = .unset ∨ ∃ w, z = .val w ∧ w.category = 1) → ∀ (Tl : State) (Bk : Cell), Stand p l e { frames := 0, locals := 0, cells := 0, slots := 0 } s m #[.ref b, .int (Int32.ofNat o), .ref d, .int (Int32.ofNat q), .int (Int32.ofNat len)] below meth c Tl ([] ++ copyLocs d q i) 0 0 → Put d Bk s₁ Tl → Laid B Bk q (q + i) (fun j => Value.int (lo8 (cv A (o + (j - q))))) →
      Steps p.tables e below (s₁.setTop (entryFrame m #[.ref b, .int (Int32.ofNat o), .ref d, .int (Int32.ofNat q), .int (Int32.ofNat len)] 7)) (Tl.setTop (mkF m 3 #[.val (.ref b), .val (.int (Int32.ofNat (o + i))), .val (.ref d), .val (.int (Int32.ofNat (q + i))), .val (.int (Int32.ofNat len)), .val (.int (Int32.ofNat i)), z] [])) → ∃ (T' : State) (B' : Cell) (z' : Slot), Stand p l e { frames := 0, locals := 0, cells := 0, slots := 0 } s m #[.ref b, .int (Int32.ofNat o), .ref d, .int (Int32.ofNat q), .int (Int32.ofNat len)] below meth c T' ([] ++ copyLocs d q len) 0 0 ∧ Put d B' s₁ T' ∧ Laid B B' q (q + len) (fun j => Value.int (lo8 (cv A (o + (j - q))))) ∧
      Steps p.tables e below (s₁.setTop (entryFrame m #[.ref b, .int (Int32.ofNat o), .ref d, .int (Int32.ofNat q), .int (Int32.ofNat len)] 7)) (T'.setTop (mkF m 3 #[.val (.ref b), .val (.int (Int32.ofNat (o + len))), .val (.ref d), .val (.int (Int32.ofNat (q + len))), .val (.int (Int32.ofNat len)), .val (.int (Int32.ofNat len)), z'] [])) := by
    intro r
    induction r with
    | zero =>
      intro i hi z hz Tl Bk Xl pl fl cl
      have hil : i = len := by omega
      rw [hil] at Xl fl cl
      exact ⟨Tl, Bk, z, Xl, pl, fl, cl⟩
    | succ r ih =>
      intro i hi z hz Tl Bk Xl pl fl cl
      have all := X0.warmed.alike.symm.trans Xl.warmed.alike
      have hAl := hA0.keep all (pl.other hne hA0.1)
      have hBk := hB0.like all pl.1 fl.1 fl.2.1 fl.2.2.1
      have hlt : q + i < Bk.slots.size := by rw [fl.2.2.1]; omega
      have c3 : Steps p.tables e below (s₁.setTop (entryFrame m #[.ref b, .int (Int32.ofNat o), .ref d, .int (Int32.ofNat q), .int (Int32.ofNat len)] 7)) (Tl.setTop (mkF m 12 #[.val (.ref b), .val (.int (Int32.ofNat (o + i))), .val (.ref d), .val (.int (Int32.ofNat (q + i))), .val (.int (Int32.ofNat len)), .val (.int (Int32.ofNat i)), z] [.int (Int32.ofNat (o + i)), .ref b])) := cl.trans (by
        refine XS.iload Xl.here hexec rfl (hb hbytes d3) rfl ?_
        refine XS.iload Xl.here hexec rfl (hb hbytes d5) rfl ?_
        refine XS.icmpNo Xl.here hexec rfl (hb hbytes d7) rfl (ii_ge_f (lt32 (by omega) (by omega))) ?_
        refine XS.aloadN Xl.here hexec rfl (hb hbytes d10) rfl rfl ?_
        refine XS.iloadN Xl.here hexec rfl (hb hbytes d11) rfl ?_
        exact Steps.refl _)
      have c4 : Steps p.tables e below (s₁.setTop (entryFrame m #[.ref b, .int (Int32.ofNat o), .ref d, .int (Int32.ofNat q), .int (Int32.ofNat len)] 7)) (Tl.setTop (mkF m 13 #[.val (.ref b), .val (.int (Int32.ofNat (o + i))), .val (.ref d), .val (.int (Int32.ofNat (q + i))), .val (.int (Int32.ofNat len)), .val (.int (Int32.ofNat i)), z] [.int (cv A (o + i))])) := c3.trans (by
        refine Xl.aget hexec hAl rfl (hA.get (i := o + i) (by omega)) rfl rfl (hb hbytes d12) ?_
        exact Steps.refl _)
      have c5 : Steps p.tables e below (s₁.setTop (entryFrame m #[.ref b, .int (Int32.ofNat o), .ref d, .int (Int32.ofNat q), .int (Int32.ofNat len)] 7)) (Tl.setTop (mkF m 15 #[.val (.ref b), .val (.int (Int32.ofNat (o + i))), .val (.ref d), .val (.int (Int32.ofNat (q + i))), .val (.int (Int32.ofNat len)), .val (.int (Int32.ofNat i)), .val (.int (cv A (o + i)))] [])) := c4.trans (by
        refine XS.istoreS Xl.here hexec rfl (hb hbytes d13) rfl rfl hz ?_
        exact Steps.refl _)
      have c6 : Steps p.tables e below (s₁.setTop (entryFrame m #[.ref b, .int (Int32.ofNat o), .ref d, .int (Int32.ofNat q), .int (Int32.ofNat len)] 7)) (Tl.setTop (mkF m 31 #[.val (.ref b), .val (.int (Int32.ofNat (o + i))), .val (.ref d), .val (.int (Int32.ofNat (q + i))), .val (.int (Int32.ofNat len)), .val (.int (Int32.ofNat i)), .val (.int (cv A (o + i)))] [.int (lo8 (cv A (o + i))), .int (Int32.ofNat (q + i)), .ref d])) := c5.trans (by
        refine XS.iload Xl.here hexec rfl (hb hbytes d15) rfl ?_
        refine sipushV Xl.here hexec rfl 255 (hb hbytes d17) (by decide) ?_
        refine XS.icmpYes Xl.here hexec rfl (pc0 := 20) rfl (hb hbytes d20) rfl (ii_le_t (hp i (by omega))) (by decide) rfl ?_
        refine XS.aloadN Xl.here hexec rfl (hb hbytes d26) rfl rfl ?_
        refine XS.iloadN Xl.here hexec rfl (hb hbytes d27) rfl ?_
        refine XS.iload Xl.here hexec rfl (hb hbytes d28) rfl ?_
        refine i2b Xl.here hexec rfl (hb hbytes d30) rfl ?_
        exact Steps.refl _)
      obtain ⟨T7, X7, p7, st7⟩ := Xl.aput hexec hBk rfl hlt rfl (fits_lo8 (cv A (o + i))) (g := (mkF m 31 #[.val (.ref b), .val (.int (Int32.ofNat (o + i))), .val (.ref d), .val (.int (Int32.ofNat (q + i))), .val (.int (Int32.ofNat len)), .val (.int (Int32.ofNat i)), .val (.int (cv A (o + i)))] [.int (lo8 (cv A (o + i))), .int (Int32.ofNat (q + i)), .ref d])) rfl (rest := []) rfl (hb hbytes d31)
      have c8 : Steps p.tables e below (s₁.setTop (entryFrame m #[.ref b, .int (Int32.ofNat o), .ref d, .int (Int32.ofNat q), .int (Int32.ofNat len)] 7)) (T7.setTop (mkF m 32 #[.val (.ref b), .val (.int (Int32.ofNat (o + i))), .val (.ref d), .val (.int (Int32.ofNat (q + i))), .val (.int (Int32.ofNat len)), .val (.int (Int32.ofNat i)), .val (.int (cv A (o + i)))] [])) := c6.trans (st7 _ (Steps.refl _))
      have c9 : Steps p.tables e below (s₁.setTop (entryFrame m #[.ref b, .int (Int32.ofNat o), .ref d, .int (Int32.ofNat q), .int (Int32.ofNat len)] 7)) (T7.setTop (mkF m 3 #[.val (.ref b), .val (.int (Int32.ofNat (o + i) + 1)), .val (.ref d), .val (.int (Int32.ofNat (q + i) + 1)), .val (.int (Int32.ofNat len)), .val (.int (Int32.ofNat i + 1)), .val (.int (cv A (o + i)))] [])) := c8.trans (by
        refine iincV X7.here hexec rfl 1 (hb hbytes d32) (by decide) rfl rfl ?_
        refine iincV X7.here hexec rfl 1 (hb hbytes d35) (by decide) rfl rfl ?_
        refine iincV X7.here hexec rfl 1 (hb hbytes d38) (by decide) rfl rfl ?_
        refine XS.goto X7.here hexec rfl (pc0 := 41) rfl (hb hbytes d41) (by decide) rfl ?_
        exact Steps.refl _)
      have c10 : Steps p.tables e below (s₁.setTop (entryFrame m #[.ref b, .int (Int32.ofNat o), .ref d, .int (Int32.ofNat q), .int (Int32.ofNat len)] 7)) (T7.setTop (mkF m 3 #[.val (.ref b), .val (.int (Int32.ofNat (o + (i + 1)))), .val (.ref d), .val (.int (Int32.ofNat (q + (i + 1)))), .val (.int (Int32.ofNat len)), .val (.int (Int32.ofNat (i + 1))), .val (.int (cv A (o + i)))] [])) := by
        have := c9
        rw [succ32, succ32, succ32] at this
        exact this
      exact ih (i + 1) (by omega) _ (Or.inr ⟨_, rfl, rfl⟩) T7 _ (by rw [copyLocs_step, ← List.append_assoc]; exact X7) (pl.trans p7) (fl.step (by omega) hlt (by simp)) c10
  obtain ⟨T9, B9, z9, X9, p9, f9, g9⟩ := loop len 0 (by omega) .unset (Or.inl rfl) s₁ B (by simpa [copyLocs] using X0) ⟨hB0.1, fun _ _ => rfl, rfl⟩ (Laid.zero _ _ _) c2
  have c11 : Steps p.tables e below (s₁.setTop (entryFrame m #[.ref b, .int (Int32.ofNat o), .ref d, .int (Int32.ofNat q), .int (Int32.ofNat len)] 7)) (T9.setTop (mkF m 46 #[.val (.ref b), .val (.int (Int32.ofNat (o + len))), .val (.ref d), .val (.int (Int32.ofNat (q + len))), .val (.int (Int32.ofNat len)), .val (.int (Int32.ofNat len)), z9] [.int (Int32.ofNat len)])) := g9.trans (by
    refine XS.iload X9.here hexec rfl (hb hbytes d3) rfl ?_
    refine XS.iload X9.here hexec rfl (hb hbytes d5) rfl ?_
    refine XS.icmpYes X9.here hexec rfl (pc0 := 7) rfl (hb hbytes d7) rfl (ii_ge_t (nlt32 (by omega) (Nat.le_refl _))) (by decide) rfl ?_
    refine XS.iload X9.here hexec rfl (hb hbytes d44) rfl ?_
    exact Steps.refl _)
  exact ⟨T9, some (.int (Int32.ofNat len)), _, _, _, X9, by simp, rfl, rfl, (fun h => by cases h), ⟨rfl, B9, p9.from hh0, f9⟩, fun fs hl => c11.trans (X9.ireturnOut hexec hret rfl (Or.inl rfl) (hb hbytes d46) hl)⟩
end Cmp5
namespace Cmp3
def yN : MethodName := ⟨"java/lang/StringUTF16", "compress", "([CII)[B"⟩
abbrev yB : ByteArray := jdk_52_method_16_code
theorem d0 : decode yB 0 = .ok (.iload_n 2, 1) := by decide +kernel
theorem d1 : decode yB 1 = .ok (.newarray .byte, 2) := by decide +kernel
theorem d3 : decode yB 3 = .ok (.astore_n 3, 1) := by decide +kernel
theorem d4 : decode yB 4 = .ok (.aload_n 0, 1) := by decide +kernel
theorem d5 : decode yB 5 = .ok (.iload_n 1, 1) := by decide +kernel
theorem d6 : decode yB 6 = .ok (.aload_n 3, 1) := by decide +kernel
theorem d7 : decode yB 7 = .ok (.iconst 0, 1) := by decide +kernel
theorem d8 : decode yB 8 = .ok (.iload_n 2, 1) := by decide +kernel
theorem d9 : decode yB 9 = .ok (.invokestatic 115, 3) := by decide +kernel
theorem d12 : decode yB 12 = .ok (.istore 4, 2) := by decide +kernel
theorem d14 : decode yB 14 = .ok (.iload 4, 2) := by decide +kernel
theorem d16 : decode yB 16 = .ok (.iload_n 2, 1) := by decide +kernel
theorem d17 : decode yB 17 = .ok (.if_icmp (.eq) 40, 3) := by decide +kernel
theorem d57 : decode yB 57 = .ok (.aload_n 3, 1) := by decide +kernel
theorem d58 : decode yB 58 = .ok (.areturn, 1) := by decide +kernel
def site : List Cond := [.arrayClass .byte, Cmp5.tab] ++ staticW U16 115 Cmp5.yN
def tab : Cond := tabOf yN yB 6 (some (.array .byte)) site
def P (b : Addr) (A : Cell) (o len : Nat) (args : Array Value) (s : State) : Prop := args = #[.ref b, .int (Int32.ofNat o), .int (Int32.ofNat len)] ∧ Ch b A s ∧ o + len ≤ A.slots.size ∧ len ≤ 536870912 ∧ ∀ i, i < len → ¬ 255 < cv A (o + i)
def E (b : Addr) (A : Cell) (o len : Nat) (r : Option Value) (s u : State) : Prop := NewArr .byte "[B" len (fun j => .int (lo8 (cv A (o + j)))) r s u ∧ u.heap.size = s.heap.size + 1
/-- no char of the range above 255: a new byte[] of their low bytes -/
theorem law (l : Launch) (b : Addr) (A : Cell) (o len : Nat) : Law l yN 3 3 1 18 yB 6 (some (.array .byte)) site (P b A o len) (E b A o len) [] 1 len := by
  refine Law.of_walk (plainFor_of_name (by decide +kernel)) (by decide +kernel) (by decide +kernel) (by decide) (fun _ _ h => by rw [h.1]; rfl) (fun _ U U' hal hh h => ⟨h.1, h.2.1.mv hal hh, h.2.2⟩) (fun r U U' V V' h1 hal h2 h => ⟨NewArr.mv r U U' V V' h1 hal h2 h.1, by rw [h1, h2]; exact h.2⟩) ?_
  intro p e s m args below meth c s₁ X0 hexec hbytes hml hret hlk hnm hown hh0 W hP
  obtain ⟨rfl, hA, l1, l2, hp⟩ := hP
  have a31 := hA.1.2.2.2
  have c1 : Steps p.tables e below (s₁.setTop (entryFrame m #[.ref b, .int (Int32.ofNat o), .int (Int32.ofNat len)] 6)) (s₁.setTop (mkF m 0 #[.val (.ref b), .val (.int (Int32.ofNat o)), .val (.int (Int32.ofNat len)), .unset, .unset, .unset] [])) := entry rfl
  have c2 : Steps p.tables e below (s₁.setTop (entryFrame m #[.ref b, .int (Int32.ofNat o), .int (Int32.ofNat len)] 6)) (s₁.setTop (mkF m 1 #[.val (.ref b), .val (.int (Int32.ofNat o)), .val (.int (Int32.ofNat len)), .unset, .unset, .unset] [.int (Int32.ofNat len)])) := c1.trans (by
    refine XS.iloadN X0.here hexec rfl (hb hbytes d0) rfl ?_
    exact Steps.refl _)
  obtain ⟨T3, B3, X3, ba3, bs3, bv3, bh3, bf3, st3⟩ := X0.anew hexec (atype := .byte) (wk W (.arrayClass .byte)) rfl (by show len * 1 ≤ _; omega) (by omega) (g := (mkF m 1 #[.val (.ref b), .val (.int (Int32.ofNat o)), .val (.int (Int32.ofNat len)), .unset, .unset, .unset] [.int (Int32.ofNat len)])) rfl (hb hbytes d1) (rest := []) rfl (Nat.le_refl _) (by show 0 + len ≤ len; omega)
  rw [hh0] at ba3 st3
  have kp3 : XT.Kept s T3 := (XT.Kept.of_eq hh0).push bh3
  have hA3 := hA.keep X3.warmed.alike (kp3 _ _ hA.1.1)
  have hne : b ≠ s.heap.size := hA.1.ne
  have c4 : Steps p.tables e below (s₁.setTop (entryFrame m #[.ref b, .int (Int32.ofNat o), .int (Int32.ofNat len)] 6)) (T3.setTop (mkF m 3 #[.val (.ref b), .val (.int (Int32.ofNat o)), .val (.int (Int32.ofNat len)), .unset, .unset, .unset] [.ref s.heap.size])) := c2.trans (st3 _ (Steps.refl _))
  have c5 : Steps p.tables e below (s₁.setTop (entryFrame m #[.ref b, .int (Int32.ofNat o), .int (Int32.ofNat len)] 6)) (T3.setTop (mkF m 9 #[.val (.ref b), .val (.int (Int32.ofNat o)), .val (.int (Int32.ofNat len)), .val (.ref s.heap.size), .unset, .unset] [.int (Int32.ofNat len), .int 0, .ref s.heap.size, .int (Int32.ofNat o), .ref b])) := c4.trans (by
    refine XS.astoreN X3.here hexec rfl (hb hbytes d3) rfl rfl rfl ?_
    refine XS.aloadN X3.here hexec rfl (hb hbytes d4) rfl rfl ?_
    refine XS.iloadN X3.here hexec rfl (hb hbytes d5) rfl ?_
    refine XS.aloadN X3.here hexec rfl (hb hbytes d6) rfl rfl ?_
    refine iconstV X3.here hexec rfl 0 (hb hbytes d7) (by decide) ?_
    refine XS.iloadN X3.here hexec rfl (hb hbytes d8) rfl ?_
    exact Steps.refl _)
  obtain ⟨v6, T6, X6, E6, g6⟩ := X3.callS hexec (Cmp5.law l b A s.heap.size B3 o 0 len) hown (wks W (staticW U16 115 Cmp5.yN)) (wk W Cmp5.tab) (W := 0) (Nat.le_of_ble_eq_true rfl) (Nat.le_of_ble_eq_true rfl) (Nat.le_refl _) (by show 0 + len + 0 ≤ len; omega) (g := (mkF m 9 #[.val (.ref b), .val (.int (Int32.ofNat o)), .val (.int (Int32.ofNat len)), .val (.ref s.heap.size), .unset, .unset] [.int (Int32.ofNat len), .int (Int32.ofNat 0), .ref s.heap.size, .int (Int32.ofNat o), .ref b])) rfl (by rw [hml]; rfl) c5 (argsL := [.ref b, .int (Int32.ofNat o), .ref s.heap.size, .int (Int32.ofNat 0), .int (Int32.ofNat len)]) (rest := []) rfl rfl (by show 2 * 0 + 0 ≤ _; decide) (hb hbytes d9) (⟨rfl, hA3, ba3, hne, l1, by rw [bs3]; simp, hp⟩)
  obtain ⟨rfl, B6, p6, f6⟩ := E6
  have c7 : Steps p.tables e below (s₁.setTop (entryFrame m #[.ref b, .int (Int32.ofNat o), .int (Int32.ofNat len)] 6)) (T6.setTop (mkF m 12 #[.val (.ref b), .val (.int (Int32.ofNat o)), .val (.int (Int32.ofNat len)), .val (.ref s.heap.size), .unset, .unset] [.int (Int32.ofNat len)])) := g6
  have c8 : Steps p.tables e below (s₁.setTop (entryFrame m #[.ref b, .int (Int32.ofNat o), .int (Int32.ofNat len)] 6)) (T6.setTop (mkF m 58 #[.val (.ref b), .val (.int (Int32.ofNat o)), .val (.int (Int32.ofNat len)), .val (.ref s.heap.size), .val (.int (Int32.ofNat len)), .unset] [.ref s.heap.size])) := c7.trans (by
    refine XS.istore X6.here hexec rfl (hb hbytes d12) rfl rfl ?_
    refine XS.iload X6.here hexec rfl (hb hbytes d14) rfl ?_
    refine XS.iloadN X6.here hexec rfl (hb hbytes d16) rfl ?_
    refine XS.icmpYes X6.here hexec rfl (pc0 := 17) rfl (hb hbytes d17) rfl (ii_eq_t rfl) (by decide) rfl ?_
    refine XS.aloadN X6.here hexec rfl (hb hbytes d57) rfl rfl ?_
    exact Steps.refl _)
  have X8 := X6.wide (L' := []) (cells' := 1) (slots' := len) (fun x hx hlt => by
    simp only [List.nil_append, copyLocs, List.mem_map, List.mem_range] at hx
    obtain ⟨i, -, rfl⟩ := hx
    exact absurd hlt (Nat.lt_irrefl _)) (Nat.le_refl _) (by omega)
  exact ⟨T6, some (.ref s.heap.size), _, _, _, X8, rfl, rfl, rfl, (fun h => by cases h), ⟨⟨rfl, B6, ba3.like (X3.warmed.alike.symm.trans X6.warmed.alike) p6.1 f6.1 f6.2.1 f6.2.2.1, f6.2.1.trans bv3, by rw [X6.warmed.alike.findClass, f6.1]; exact bf3, by rw [f6.2.2.1, bs3]; simp, fun j hj => by rw [f6.2.2.2 j, if_pos (by omega)]; rfl, kp3.put p6 (Nat.le_refl _)⟩, by rw [p6.2.2, bh3, hh0]; simp⟩, fun fs hl => c8.trans (X8.areturnOut hexec rfl hret rfl (hb hbytes d58) hl)⟩
end Cmp3
namespace CodL
def yN : MethodName := ⟨"java/lang/StringUTF16", "coderFromArrayLen", "([BI)B"⟩
abbrev yB : ByteArray := jdk_52_method_15_code
theorem d0 : decode yB 0 = .ok (.iload_n 1, 1) := by decide +kernel
theorem d1 : decode yB 1 = .ok (.aload_n 0, 1) := by decide +kernel
theorem d2 : decode yB 2 = .ok (.arraylength, 1) := by decide +kernel
theorem d3 : decode yB 3 = .ok (.isub, 1) := by decide +kernel
theorem d4 : decode yB 4 = .ok (.bipush 31, 2) := by decide +kernel
theorem d6 : decode yB 6 = .ok (.iushr, 1) := by decide +kernel
theorem d7 : decode yB 7 = .ok (.i2b, 1) := by decide +kernel
theorem d8 : decode yB 8 = .ok (.ireturn, 1) := by decide +kernel
def site : List Cond := []
def tab : Cond := tabOf yN yB 2 (some .byte) site
def P (d : Addr) (B : Cell) (args : Array Value) (s : State) : Prop := args = #[.ref d, .int (Int32.ofNat B.slots.size)] ∧ Arr .byte d B s
def E (r : Option Value) (s u : State) : Prop := XT.PureE (some (.int 0)) r s u
/-- an array as long as the number of chars: LATIN1 -/
theorem law (l : Launch) (d : Addr) (B : Cell) : Law l yN 2 2 0 0 yB 2 (some .byte) site (P d B) E [] 0 0 := by
  refine Law.of_walk (plainFor_of_name (by decide +kernel)) (by decide +kernel) (by decide +kernel) (by decide) (fun _ _ h => by rw [h.1]; rfl) (fun _ U U' hal hh h => ⟨h.1, h.2.mv hal hh⟩) (fun r U U' V V' h1 hal h2 h => XT.PureE.mv r U U' V V' h1 hal h2 h) ?_
  intro p e s m args below meth c s₁ X0 hexec hbytes hml hret hlk hnm hown hh0 W hP
  obtain ⟨rfl, hB⟩ := hP
  have hB0 := hB.mv X0.warmed.alike hh0
  have c1 : Steps p.tables e below (s₁.setTop (entryFrame m #[.ref d, .int (Int32.ofNat B.slots.size)] 2)) (s₁.setTop (mkF m 0 #[.val (.ref d), .val (.int (Int32.ofNat B.slots.size))] [])) := entry rfl
  have c2 : Steps p.tables e below (s₁.setTop (entryFrame m #[.ref d, .int (Int32.ofNat B.slots.size)] 2)) (s₁.setTop (mkF m 2 #[.val (.ref d), .val (.int (Int32.ofNat B.slots.size))] [.ref d, .int (Int32.ofNat B.slots.size)])) := c1.trans (by
    refine XS.iloadN X0.here hexec rfl (hb hbytes d0) rfl ?_
    refine XS.aloadN X0.here hexec rfl (hb hbytes d1) rfl rfl ?_
    exact Steps.refl _)
  have c3 : Steps p.tables e below (s₁.setTop (entryFrame m #[.ref d, .int (Int32.ofNat B.slots.size)] 2)) (s₁.setTop (mkF m 8 #[.val (.ref d), .val (.int (Int32.ofNat B.slots.size))] [.int (lo8 (ushr (Int32.ofNat B.slots.size - Int32.ofNat B.slots.size) 31))])) := c2.trans (by
    refine X0.alen hexec hB0 rfl rfl (hb hbytes d2) ?_
    refine XS.isub X0.here hexec rfl (hb hbytes d3) rfl ?_
    refine bipushV X0.here hexec rfl 31 (hb hbytes d4) (by decide) ?_
    refine iushr X0.here hexec rfl (hb hbytes d6) rfl ?_
    refine i2b X0.here hexec rfl (hb hbytes d7) rfl ?_
    exact Steps.refl _)
  have e0 : lo8 (ushr (Int32.ofNat B.slots.size - Int32.ofNat B.slots.size) 31) = 0 := by rw [Int32.sub_self]; decide
  rw [e0] at c3
  exact ⟨s₁, some (.int 0), _, _, _, X0, rfl, rfl, rfl, (fun h => by cases h), ⟨rfl, hh0⟩, fun fs hl => c3.trans (X0.ireturnOut hexec hret rfl (Or.inr (Or.inr (Or.inl rfl))) (hb hbytes d8) hl)⟩
end CodL
/-- the String at a is Latin-1 over a new byte[] (the heap's one new cell): the low bytes of the len chars of A from o on; every cell but a is kept -/
def Got (a : Addr) (D : Cell) (fV fC : Field) (A : Cell) (o len : Nat) (r : Option Value) (s u : State) : Prop := r = none ∧ ∃ D' V : Cell, Blank "java/lang/String" a D' u ∧ Same D D' [fV.slot, fC.slot] ∧ D'.slots[fV.slot]? = some (.ref s.heap.size) ∧ D'.slots[fC.slot]? = some (.int 0) ∧ Arr .byte s.heap.size V u ∧ V.vm = .none ∧ u.vm.findClass "[B" = some V.cls ∧ V.slots.size = len ∧ (∀ j, j < len → V.slots[j]? = some (.int (lo8 (cv A (o + j))))) ∧ (∀ (y : Addr) (c : Cell), y ≠ a → s.heap[y]? = some c → u.heap[y]? = some c) ∧ u.heap.size = s.heap.size + 1
theorem Got.mv {a : Addr} {D A : Cell} {fV fC : Field} {o len : Nat} : ∀ r (U U' V V' : State), U'.heap = U.heap → V.vm.Alike V'.vm → V'.heap = V.heap → Got a D fV fC A o len r U V → Got a D fV fC A o len r U' V' :=
  fun r U U' V V' h1 hal h2 ⟨e0, D', X, a1, a2, a3, a4, a5, a6, a7, a8, a9, a10, a11⟩ => ⟨e0, D', X, a1.mv hal h2, a2, by rw [h1]; exact a3, a4, by rw [h1]; exact a5.mv hal h2, a6, by rw [hal.findClass]; exact a7, a8, a9, by rw [h1, h2]; exact a10, by rw [h1, h2]; exact a11⟩
namespace New4
def yN : MethodName := ⟨"java/lang/String", "<init>", "([CIILjava/lang/Void;)V"⟩
abbrev yB : ByteArray := jdk_42_method_149_code
theorem d0 : decode yB 0 = .ok (.aload_n 0, 1) := by decide +kernel
theorem d1 : decode yB 1 = .ok (.invokespecial 1, 3) := by decide +kernel
theorem d4 : decode yB 4 = .ok (.iload_n 3, 1) := by decide +kernel
theorem d5 : decode yB 5 = .ok (.ifCond (.ne) 22, 3) := by decide +kernel
theorem d27 : decode yB 27 = .ok (.getstatic 38, 3) := by decide +kernel
theorem d30 : decode yB 30 = .ok (.ifCond (.eq) 28, 3) := by decide +kernel
theorem d33 : decode yB 33 = .ok (.aload_n 1, 1) := by decide +kernel
theorem d34 : decode yB 34 = .ok (.iload_n 2, 1) := by decide +kernel
theorem d35 : decode yB 35 = .ok (.iload_n 3, 1) := by decide +kernel
theorem d36 : decode yB 36 = .ok (.invokestatic 177, 3) := by decide +kernel
theorem d39 : decode yB 39 = .ok (.astore 5, 2) := by decide +kernel
theorem d41 : decode yB 41 = .ok (.aload_n 0, 1) := by decide +kernel
theorem d42 : decode yB 42 = .ok (.aload 5, 2) := by decide +kernel
theorem d44 : decode yB 44 = .ok (.iload_n 3, 1) := by decide +kernel
theorem d45 : decode yB 45 = .ok (.invokestatic 47, 3) := by decide +kernel
theorem d48 : decode yB 48 = .ok (.putfield 15, 3) := by decide +kernel
theorem d51 : decode yB 51 = .ok (.aload_n 0, 1) := by decide +kernel
theorem d52 : decode yB 52 = .ok (.aload 5, 2) := by decide +kernel
theorem d54 : decode yB 54 = .ok (.putfield 9, 3) := by decide +kernel
theorem d57 : decode yB 57 = .ok (.return_, 1) := by decide +kernel
def site : List Cond := [.fieldLink "java/lang/String" 38 "java/lang/String" "COMPACT_STRINGS" "Z", Cmp3.tab, CodL.tab, .laysFinal "java/lang/String" "java/lang/String" "value" "[B", .fieldLink "java/lang/String" 9 "java/lang/String" "value" "[B", .laysFinal "java/lang/String" "java/lang/String" "coder" "B", .fieldLink "java/lang/String" 15 "java/lang/String" "coder" "B"] ++ objW "java/lang/String" 1 ++ staticW "java/lang/String" 177 Cmp3.yN ++ staticW "java/lang/String" 47 CodL.yN
def tab : Cond := tabOf yN yB 6 none site
def P (a : Addr) (D : Cell) (fV fC : Field) (b : Addr) (A : Cell) (z : Int32) (o len : Nat) (args : Array Value) (s : State) : Prop := args = #[.ref a, .ref b, .int (Int32.ofNat o), .int (Int32.ofNat len), .null] ∧ Blank "java/lang/String" a D s ∧ Found "java/lang/String" "value" "[B" fV s ∧ Found "java/lang/String" "coder" "B" fC s ∧ Ch b A s ∧ StaticIs s "java/lang/String" "COMPACT_STRINGS" "Z" (.int z) ∧ ¬ z = 0 ∧ 0 < len ∧ o + len ≤ A.slots.size ∧ len ≤ 536870912 ∧ ∀ i, i < len → ¬ 255 < cv A (o + i)
def E (a : Addr) (D : Cell) (fV fC : Field) (A : Cell) (o len : Nat) (r : Option Value) (s u : State) : Prop := Got a D fV fC A o len r s u
/-- len > 0, no char of the range above 255: a Latin-1 String of their low bytes -/
theorem law (l : Launch) (a : Addr) (D : Cell) (fV fC : Field) (b : Addr) (A : Cell) (z : Int32) (o len : Nat) : Law l yN 5 4 2 35 yB 6 none site (P a D fV fC b A z o len) (E a D fV fC A o len) [⟨a, fC.slot⟩, ⟨a, fV.slot⟩] 1 len := by
  refine Law.of_walk (plainFor_of_name (by decide +kernel)) (by decide +kernel) (by decide +kernel) (by decide) (fun _ _ h => by rw [h.1]; rfl) (fun _ U U' hal hh h => ⟨h.1, h.2.1.mv hal hh, h.2.2.1.al hal, h.2.2.2.1.al hal, h.2.2.2.2.1.mv hal hh, h.2.2.2.2.2.1.there hal hh, h.2.2.2.2.2.2⟩) (fun r U U' V V' h1 hal h2 h => Got.mv r U U' V V' h1 hal h2 h) ?_
  intro p e s m args below meth c s₁ X0 hexec hbytes hml hret hlk hnm hown hh0 W hP
  obtain ⟨rfl, hB, f1, f2, hA, s1, hz, l0, l1, l2, hp⟩ := hP
  have a31 := hA.1.2.2.2
  have c1 : Steps p.tables e below (s₁.setTop (entryFrame m #[.ref a, .ref b, .int (Int32.ofNat o), .int (Int32.ofNat len), .null] 6)) (s₁.setTop (mkF m 0 #[.val (.ref a), .val (.ref b), .val (.int (Int32.ofNat o)), .val (.int (Int32.ofNat len)), .val .null, .unset] [])) := entry rfl
  have c2 : Steps p.tables e below (s₁.setTop (entryFrame m #[.ref a, .ref b, .int (Int32.ofNat o), .int (Int32.ofNat len), .null] 6)) (s₁.setTop (mkF m 1 #[.val (.ref a), .val (.ref b), .val (.int (Int32.ofNat o)), .val (.int (Int32.ofNat len)), .val .null, .unset] [.ref a])) := c1.trans (by
    refine XS.aloadN X0.here hexec rfl (hb hbytes d0) rfl rfl ?_
    exact Steps.refl _)
  obtain ⟨T3, X3, q3, st3⟩ := X0.oinit hexec hown (wks W (objW "java/lang/String" 1)) (g := (mkF m 1 #[.val (.ref a), .val (.ref b), .val (.int (Int32.ofNat o)), .val (.int (Int32.ofNat len)), .val .null, .unset] [.ref a])) rfl (by rw [hml]; rfl) (rest := []) rfl (hb hbytes d1) (W := 0) (by show 2 * 0 + 0 ≤ _; decide) (Nat.le_of_ble_eq_true rfl) (Nat.le_of_ble_eq_true rfl)
  have hh3 := q3.trans hh0
  have c4 : Steps p.tables e below (s₁.setTop (entryFrame m #[.ref a, .ref b, .int (Int32.ofNat o), .int (Int32.ofNat len), .null] 6)) (T3.setTop (mkF m 27 #[.val (.ref a), .val (.ref b), .val (.int (Int32.ofNat o)), .val (.int (Int32.ofNat len)), .val .null, .unset] [])) := (c2.trans (st3 _ (Steps.refl _))).trans (by
    refine XS.iloadN X3.here hexec rfl (hb hbytes d4) rfl ?_
    refine XS.ifYes X3.here hexec rfl (pc0 := 5) rfl (hb hbytes d5) rfl (i0_ne_t (nz32 (by omega) l0)) (by decide) rfl ?_
    exact Steps.refl _)
  obtain ⟨T5, X5, q5, st5⟩ := X3.sget hexec hown (wk W (.fieldLink "java/lang/String" 38 "java/lang/String" "COMPACT_STRINGS" "Z")) s1 (fun _ _ h => by rw [hh3]; exact h) (g := (mkF m 27 #[.val (.ref a), .val (.ref b), .val (.int (Int32.ofNat o)), .val (.int (Int32.ofNat len)), .val .null, .unset] [])) rfl (hb hbytes d27)
  have hh5 := q5.trans hh3
  have c6 : Steps p.tables e below (s₁.setTop (entryFrame m #[.ref a, .ref b, .int (Int32.ofNat o), .int (Int32.ofNat len), .null] 6)) (T5.setTop (mkF m 30 #[.val (.ref a), .val (.ref b), .val (.int (Int32.ofNat o)), .val (.int (Int32.ofNat len)), .val .null, .unset] [.int z])) := c4.trans (st5 _ (Steps.refl _))
  have c7 : Steps p.tables e below (s₁.setTop (entryFrame m #[.ref a, .ref b, .int (Int32.ofNat o), .int (Int32.ofNat len), .null] 6)) (T5.setTop (mkF m 36 #[.val (.ref a), .val (.ref b), .val (.int (Int32.ofNat o)), .val (.int (Int32.ofNat len)), .val .null, .unset] [.int (Int32.ofNat len), .int (Int32.ofNat o), .ref b])) := c6.trans (by
    refine XS.ifNo X5.here hexec rfl (hb hbytes d30) rfl (i0_eq_f hz) ?_
    refine XS.aloadN X5.here hexec rfl (hb hbytes d33) rfl rfl ?_
    refine XS.iloadN X5.here hexec rfl (hb hbytes d34) rfl ?_
    refine XS.iloadN X5.here hexec rfl (hb hbytes d35) rfl ?_
    exact Steps.refl _)
  obtain ⟨v8, T8, X8, E8, g8⟩ := X5.callS hexec (Cmp3.law l b A o len) hown (wks W (staticW "java/lang/String" 177 Cmp3.yN)) (wk W Cmp3.tab) (W := 0) (Nat.le_of_ble_eq_true rfl) (Nat.le_of_ble_eq_true rfl) (Nat.le_refl _) (by show 0 + len ≤ len; omega) (g := (mkF m 36 #[.val (.ref a), .val (.ref b), .val (.int (Int32.ofNat o)), .val (.int (Int32.ofNat len)), .val .null, .unset] [.int (Int32.ofNat len), .int (Int32.ofNat o), .ref b])) rfl (by rw [hml]; rfl) c7 (argsL := [.ref b, .int (Int32.ofNat o), .int (Int32.ofNat len)]) (rest := []) rfl rfl (by show 2 * 0 + 0 ≤ _; decide) (hb hbytes d36) (⟨rfl, hA.mv X5.warmed.alike hh5, l1, l2, hp⟩)
  obtain ⟨e8, z8⟩ := E8
  obtain ⟨rfl, N, n1, n2, n3, n4, n5, n6⟩ := NewArr.mv _ T5 s _ _ hh5.symm (Vm.Alike.refl _) rfl e8
  rw [hh5] at z8
  have hB1 := hB.keep X8.warmed.alike (n6 _ _ hB.1)
  have hne : s.heap.size ≠ a := (Nat.ne_of_lt (Array.getElem?_eq_some_iff.mp hB.1).1).symm
  have c9 : Steps p.tables e below (s₁.setTop (entryFrame m #[.ref a, .ref b, .int (Int32.ofNat o), .int (Int32.ofNat len), .null] 6)) (T8.setTop (mkF m 39 #[.val (.ref a), .val (.ref b), .val (.int (Int32.ofNat o)), .val (.int (Int32.ofNat len)), .val .null, .unset] [.ref s.heap.size])) := g8
  have c10 : Steps p.tables e below (s₁.setTop (entryFrame m #[.ref a, .ref b, .int (Int32.ofNat o), .int (Int32.ofNat len), .null] 6)) (T8.setTop (mkF m 45 #[.val (.ref a), .val (.ref b), .val (.int (Int32.ofNat o)), .val (.int (Int32.ofNat len)), .val .null, .val (.ref s.heap.size)] [.int (Int32.ofNat N.slots.size), .ref s.heap.size, .ref a])) := by
    have hc : Steps p.tables e below (s₁.setTop (entryFrame m #[.ref a, .ref b, .int (Int32.ofNat o), .int (Int32.ofNat len), .null] 6)) (T8.setTop (mkF m 45 #[.val (.ref a), .val (.ref b), .val (.int (Int32.ofNat o)), .val (.int (Int32.ofNat len)), .val .null, .val (.ref s.heap.size)] [.int (Int32.ofNat len), .ref s.heap.size, .ref a])) := c9.trans (by
      refine XS.astore X8.here hexec rfl (hb hbytes d39) rfl rfl rfl ?_
      refine XS.aloadN X8.here hexec rfl (hb hbytes d41) rfl rfl ?_
      refine XS.aload X8.here hexec rfl (hb hbytes d42) rfl rfl ?_
      refine XS.iloadN X8.here hexec rfl (hb hbytes d44) rfl ?_
      exact Steps.refl _)
    rw [n4]; exact hc
  obtain ⟨v11, T11, X11, E11, g11⟩ := X8.callS hexec (CodL.law l s.heap.size N) hown (wks W (staticW "java/lang/String" 47 CodL.yN)) (wk W CodL.tab) (W := 1) (Nat.le_of_ble_eq_true rfl) (Nat.le_of_ble_eq_true rfl) (Nat.le_refl _) (by show 0 + len + 0 ≤ len; omega) (g := (mkF m 45 #[.val (.ref a), .val (.ref b), .val (.int (Int32.ofNat o)), .val (.int (Int32.ofNat len)), .val .null, .val (.ref s.heap.size)] [.int (Int32.ofNat N.slots.size), .ref s.heap.size, .ref a])) rfl (by rw [hml]; rfl) c10 (argsL := [.ref s.heap.size, .int (Int32.ofNat N.slots.size)]) (rest := [.ref a]) rfl rfl (by show 2 * 0 + (1 + 0) ≤ _; decide) (hb hbytes d45) (⟨rfl, n1⟩)
  obtain ⟨rfl, q11⟩ := E11
  have hB11 := hB1.mv (X8.warmed.alike.symm.trans X11.warmed.alike) q11
  have c12 : Steps p.tables e below (s₁.setTop (entryFrame m #[.ref a, .ref b, .int (Int32.ofNat o), .int (Int32.ofNat len), .null] 6)) (T11.setTop (mkF m 48 #[.val (.ref a), .val (.ref b), .val (.int (Int32.ofNat o)), .val (.int (Int32.ofNat len)), .val .null, .val (.ref s.heap.size)] [.int 0, .ref a])) := g11
  obtain ⟨T13, X13, p13, bl13, sl13, st13⟩ := X11.finit hexec hown (wk W (.fieldLink "java/lang/String" 15 "java/lang/String" "coder" "B")) (Or.inr ⟨_, (wk W (.laysFinal "java/lang/String" "java/lang/String" "coder" "B"))⟩) (Or.inl ⟨rfl, hnm⟩) f2 (Or.inl rfl) hB11 (t := .byte) (by decide +kernel) rfl (g := (mkF m 48 #[.val (.ref a), .val (.ref b), .val (.int (Int32.ofNat o)), .val (.int (Int32.ofNat len)), .val .null, .val (.ref s.heap.size)] [.int 0, .ref a])) rfl (rest := []) rfl (hb hbytes d48)
  have c14 : Steps p.tables e below (s₁.setTop (entryFrame m #[.ref a, .ref b, .int (Int32.ofNat o), .int (Int32.ofNat len), .null] 6)) (T13.setTop (mkF m 54 #[.val (.ref a), .val (.ref b), .val (.int (Int32.ofNat o)), .val (.int (Int32.ofNat len)), .val .null, .val (.ref s.heap.size)] [.ref s.heap.size, .ref a])) := (c12.trans (st13 _ (Steps.refl _))).trans (by
    refine XS.aloadN X13.here hexec rfl (hb hbytes d51) rfl rfl ?_
    refine XS.aload X13.here hexec rfl (hb hbytes d52) rfl rfl ?_
    exact Steps.refl _)
  obtain ⟨T15, X15, p15, bl15, sl15, st15⟩ := X13.finit hexec hown (wk W (.fieldLink "java/lang/String" 9 "java/lang/String" "value" "[B")) (Or.inr ⟨_, (wk W (.laysFinal "java/lang/String" "java/lang/String" "value" "[B"))⟩) (Or.inl ⟨rfl, hnm⟩) f1 (Or.inl rfl) bl13 (t := (.array .byte)) (by decide +kernel) rfl (g := (mkF m 54 #[.val (.ref a), .val (.ref b), .val (.int (Int32.ofNat o)), .val (.int (Int32.ofNat len)), .val .null, .val (.ref s.heap.size)] [.ref s.heap.size, .ref a])) rfl (rest := []) rfl (hb hbytes d54)
  have c16 : Steps p.tables e below (s₁.setTop (entryFrame m #[.ref a, .ref b, .int (Int32.ofNat o), .int (Int32.ofNat len), .null] 6)) (T15.setTop (mkF m 57 #[.val (.ref a), .val (.ref b), .val (.int (Int32.ofNat o)), .val (.int (Int32.ofNat len)), .val .null, .val (.ref s.heap.size)] [])) := c14.trans (st15 _ (Steps.refl _))
  have ap := apart (Or.inr ⟨_, (wk W (.laysFinal "java/lang/String" "java/lang/String" "value" "[B"))⟩) (Or.inr ⟨_, (wk W (.laysFinal "java/lang/String" "java/lang/String" "coder" "B"))⟩) f1 f2 (t₁ := .array .byte) (t₂ := .byte) (by decide +kernel) (by decide +kernel) (by decide)
  have al := X8.warmed.alike.symm.trans X15.warmed.alike
  have n7 : T11.heap[s.heap.size]? = some N := by rw [q11]; exact n1.1
  exact ⟨T15, none, _, _, _, X15, by simp, rfl, by omega, (fun _ => rfl), ⟨rfl, _, N, bl15, ((Same.refl D _).set _ (by simp)).set _ (by simp), sl15, (Cell.slots_setSlot_ne _ ap).trans sl13, n1.keep al (p15.other hne (p13.other hne n7)), n2, by rw [al.findClass]; exact n3, n4, n5, fun y c h1 h2 => p15.other h1 (p13.other h1 (by rw [q11]; exact n6 y c h2)), by rw [p15.2.2, p13.2.2, q11]; exact z8⟩, fun fs hl => c16.trans (X15.returnOut hexec hret (hb hbytes d57) hl)⟩
end New4
namespace New1
def yN : MethodName := ⟨"java/lang/String", "<init>", "([C)V"⟩
abbrev yB : ByteArray := jdk_42_method_3_code
theorem d0 : decode yB 0 = .ok (.aload_n 0, 1) := by decide +kernel
theorem d1 : decode yB 1 = .ok (.aload_n 1, 1) := by decide +kernel
theorem d2 : decode yB 2 = .ok (.iconst 0, 1) := by decide +kernel
theorem d3 : decode yB 3 = .ok (.aload_n 1, 1) := by decide +kernel
theorem d4 : decode yB 4 = .ok (.arraylength, 1) := by decide +kernel
theorem d5 : decode yB 5 = .ok (.aconst_null, 1) := by decide +kernel
theorem d6 : decode yB 6 = .ok (.invokespecial 27, 3) := by decide +kernel
theorem d9 : decode yB 9 = .ok (.return_, 1) := by decide +kernel
def site : List Cond := [New4.tab] ++ initW "java/lang/String" 27 New4.yN
def tab : Cond := tabOf yN yB 2 none site
def P (a : Addr) (D : Cell) (fV fC : Field) (b : Addr) (A : Cell) (z : Int32) (args : Array Value) (s : State) : Prop := args = #[.ref a, .ref b] ∧ Blank "java/lang/String" a D s ∧ Found "java/lang/String" "value" "[B" fV s ∧ Found "java/lang/String" "coder" "B" fC s ∧ Ch b A s ∧ StaticIs s "java/lang/String" "COMPACT_STRINGS" "Z" (.int z) ∧ ¬ z = 0 ∧ 0 < A.slots.size ∧ A.slots.size ≤ 536870912 ∧ ∀ i, i < A.slots.size → ¬ 255 < cv A i
def E (a : Addr) (D : Cell) (fV fC : Field) (A : Cell) (r : Option Value) (s u : State) : Prop := Got a D fV fC A 0 A.slots.size r s u
/-- new String(chars), not empty, no char above 255: a Latin-1 String of their low bytes -/
theorem law (l : Launch) (a : Addr) (D : Cell) (fV fC : Field) (b : Addr) (A : Cell) (z : Int32) : Law l yN 2 1 3 52 yB 2 none site (P a D fV fC b A z) (E a D fV fC A) [⟨a, fC.slot⟩, ⟨a, fV.slot⟩] 1 A.slots.size := by
  refine Law.of_walk (plainFor_of_name (by decide +kernel)) (by decide +kernel) (by decide +kernel) (by decide) (fun _ _ h => by rw [h.1]; rfl) (fun _ U U' hal hh h => ⟨h.1, h.2.1.mv hal hh, h.2.2.1.al hal, h.2.2.2.1.al hal, h.2.2.2.2.1.mv hal hh, h.2.2.2.2.2.1.there hal hh, h.2.2.2.2.2.2⟩) (fun r U U' V V' h1 hal h2 h => Got.mv r U U' V V' h1 hal h2 h) ?_
  intro p e s m args below meth c s₁ X0 hexec hbytes hml hret hlk hnm hown hh0 W hP
  obtain ⟨rfl, hB, f1, f2, hA, s1, hz, l0, l2, hp⟩ := hP
  have c1 : Steps p.tables e below (s₁.setTop (entryFrame m #[.ref a, .ref b] 2)) (s₁.setTop (mkF m 0 #[.val (.ref a), .val (.ref b)] [])) := entry rfl
  have c2 : Steps p.tables e below (s₁.setTop (entryFrame m #[.ref a, .ref b] 2)) (s₁.setTop (mkF m 6 #[.val (.ref a), .val (.ref b)] [.null, .int (Int32.ofNat A.slots.size), .int 0, .ref b, .ref a])) := c1.trans (by
    refine XS.aloadN X0.here hexec rfl (hb hbytes d0) rfl rfl ?_
    refine XS.aloadN X0.here hexec rfl (hb hbytes d1) rfl rfl ?_
    refine iconstV X0.here hexec rfl 0 (hb hbytes d2) (by decide) ?_
    refine XS.aloadN X0.here hexec rfl (hb hbytes d3) rfl rfl ?_
    refine X0.alen hexec (hA.1.mv X0.warmed.alike hh0) rfl rfl (hb hbytes d4) ?_
    refine XS.aconstNull X0.here hexec rfl (hb hbytes d5) ?_
    exact Steps.refl _)
  obtain ⟨v3, T3, X3, E3, g3⟩ := X0.callN hexec (New4.law l a D fV fC b A z 0 A.slots.size) rfl hown (wks W (initW "java/lang/String" 27 New4.yN)) (W New4.tab (by simp only [site, List.mem_cons, List.mem_append, true_or, or_true])) (W := 0) (Nat.le_of_ble_eq_true rfl) (Nat.le_of_ble_eq_true rfl) (Nat.le_refl _) (by show 0 + A.slots.size ≤ A.slots.size; omega) (g := (mkF m 6 #[.val (.ref a), .val (.ref b)] [.null, .int (Int32.ofNat A.slots.size), .int (Int32.ofNat 0), .ref b, .ref a])) rfl (by rw [hml]; rfl) c2 (argsL := [.ref b, .int (Int32.ofNat 0), .int (Int32.ofNat A.slots.size), .null]) (rest := []) rfl rfl (by show 2 * 0 + 0 ≤ _; decide) (hb hbytes d6) (⟨rfl, hB.mv X0.warmed.alike hh0, f1.al X0.warmed.alike, f2.al X0.warmed.alike, hA.mv X0.warmed.alike hh0, s1.there X0.warmed.alike hh0, hz, l0, by omega, l2, fun i hi => by rw [Nat.zero_add]; exact hp i hi⟩)
  have e0 := Got.mv _ s₁ s _ _ hh0.symm (Vm.Alike.refl _) rfl E3
  obtain rfl := e0.1
  have c4 : Steps p.tables e below (s₁.setTop (entryFrame m #[.ref a, .ref b] 2)) (T3.setTop (mkF m 9 #[.val (.ref a), .val (.ref b)] [])) := g3
  exact ⟨T3, none, _, _, _, X3, by simp, rfl, by omega, (fun _ => rfl), e0, fun fs hl => c4.trans (X3.returnOut hexec hret (hb hbytes d9) hl)⟩
theorem pays {l : Launch} {R : Room} {p : Program} {e : Env} {below : List Frame} {s : State} {sargs : Array Value} {len W : Nat} (a : Addr) (D : Cell) (fV fC : Field) (b : Addr) (A : Cell) (z : Int32) (htab : tab.before sargs s = true) (hfr : 4 ≤ R.frames) (hlo : W + 65 ≤ R.locals) :
    Back l R p e below s sargs yN len W (fun A₁ a₁ => A₁.cells + 1 ≤ R.cells ∧ A₁.slots + A.slots.size ≤ R.slots ∧ P a D fV fC b A z a₁ A₁.U) (fun A₁ _ v₁ B₁ => E a D fV fC A v₁ A₁.U B₁.U ∧ B₁.locs = A₁.locs ++ [⟨a, fC.slot⟩, ⟨a, fV.slot⟩] ∧ B₁.cells = A₁.cells + 1 ∧ B₁.slots = A₁.slots + A.slots.size) :=
  (law l a D fV fC b A z).pays htab hfr (by omega)
end New1
end StrChars
namespace StrChars.Road
open Jvm Sem ClassFile Op Lib Jvm.Stand Jvm.Free Jvm.Free.XT
open Jvm.Lib.Cold (StaticIs)
abbrev ST : String := "java/lang/String"
/-- every table word that New1's law asks, flat -/
abbrev words : List Jvm.Cond := [.code New1.yN New1.yB 2 none, .initialized ST, .methodLink ST 27 New4.yN, .instanceMethod New4.yN,
  .code New4.yN New4.yB 6 none, .fieldLink ST 38 ST "COMPACT_STRINGS" "Z", .laysFinal ST ST "value" "[B", .fieldLink ST 9 ST "value" "[B", .laysFinal ST ST "coder" "B", .fieldLink ST 15 ST "coder" "B",
  .methodLink ST 1 Lib.objectInit, .instanceMethod Lib.objectInit, .code Lib.objectInit ⟨#[0xb1]⟩ 1 none, .methodLink ST 177 Cmp3.yN, .static Cmp3.yN, .methodLink ST 47 CodL.yN, .static CodL.yN,
  .code Cmp3.yN Cmp3.yB 6 (some (.array .byte)), .initialized U16, .arrayClass .byte, .methodLink U16 115 Cmp5.yN, .static Cmp5.yN, .code Cmp5.yN Cmp5.yB 7 (some .int), .code CodL.yN CodL.yB 2 (some .byte)]
theorem tab_of {a : Array Value} {s : State} (h : ∀ w ∈ words, w.before a s = true) : New1.tab.before a s = true := by
  have h5 : Cmp5.tab.before a s = true := unparts (wk h (.code Cmp5.yN Cmp5.yB 7 (some .int))) (wks h (.initialized Cmp5.yN.cls :: Cmp5.site))
  have hc : CodL.tab.before a s = true := unparts (wk h (.code CodL.yN CodL.yB 2 (some .byte))) (wks h (.initialized CodL.yN.cls :: CodL.site))
  have q5 : ∀ w ∈ Cmp5.tab :: words, w.before a s = true := fun w hw => (List.mem_cons.mp hw).elim (fun e => e ▸ h5) (h w)
  have h3 : Cmp3.tab.before a s = true := unparts (wk q5 (.code Cmp3.yN Cmp3.yB 6 (some (.array .byte)))) (wks q5 (.initialized Cmp3.yN.cls :: Cmp3.site))
  have q3 : ∀ w ∈ Cmp3.tab :: CodL.tab :: words, w.before a s = true := fun w hw => (List.mem_cons.mp hw).elim (fun e => e ▸ h3) fun hw => (List.mem_cons.mp hw).elim (fun e => e ▸ hc) (h w)
  have h4 : New4.tab.before a s = true := unparts (wk q3 (.code New4.yN New4.yB 6 none)) (wks q3 (.initialized New4.yN.cls :: New4.site))
  have q4 : ∀ w ∈ New4.tab :: words, w.before a s = true := fun w hw => (List.mem_cons.mp hw).elim (fun e => e ▸ h4) (h w)
  exact unparts (wk q4 (.code New1.yN New1.yB 2 none)) (wks q4 (.initialized New1.yN.cls :: New1.site))
/-- the words ride from the start Z to the walk's own state -/
theorem moved {Z s : State} {a0 args : Array Value} (hZ : Z.Warmed39 s.vm) (hw : ∀ d ∈ words, d.before a0 Z = true) : ∀ d ∈ words, d.before args s = true := fun d hd => by
  have q := hw d hd
  have t : ∀ d ∈ words, d = .arrayClass .byte ∨ (d.onTables && d.keepsFace) = true := by decide +kernel
  rcases t d hd with rfl | t
  · exact RoadKit.mvA hZ q
  · exact RoadKit.mv hZ q t
/-- WHAT COMES BACK, over the tables of the start Z: h the heap at the call, h' behind it -/
def Q (Z : State) (x : Addr) (A : Cell) (h : Heap) (v : Option Value) (h' : Heap) (L : List Loc) : Prop := v = none ∧ (∀ y ∈ L, y.base = x) ∧ RoadKit.Keep h h' [x] ∧ h'.size = h.size + 1 ∧ RoadKit.Exa Z h' x ST ∧ RoadKit.Fld Z h' x ST "value" "[B" (.ref h.size) ∧ RoadKit.Fld Z h' x ST "coder" "B" (.int 0) ∧
  (∃ V : Cell, RoadKit.Arr Z h' h.size V .byte ∧ V.vm = .none ∧ Z.vm.findClass "[B" = some V.cls ∧ V.slots.size = A.slots.size ∧ ∀ j, j < A.slots.size → V.slots[j]? = some (.int (lo8 (cv A j)))) ∧
  ∀ (O n d : String) (w : Value), RoadKit.Fld Z h x O n d w → RoadKit.slotOf Z O n d ≠ RoadKit.slotOf Z ST "value" "[B" → RoadKit.slotOf Z O n d ≠ RoadKit.slotOf Z ST "coder" "B" → RoadKit.Fld Z h' x O n d w
/-- **new String(chars) AT A CALL, IN THE ROAD'S FORM**: for specialBack behind newO: x the fresh String, b the char[] with the cell A -/
theorem back {p : Program} {l : Launch} {e : Env} {R : Room} {s : State} {args : Array Value} {below : List Frame} {len W : Nat} {Z : State} {a0 : Array Value} {h : Heap} (hZ : Z.Warmed39 s.vm) (hw : ∀ d ∈ words, d.before a0 Z = true) {kI : Nat} (wi : (Jvm.Cond.instantiable ST kI).before a0 Z = true)
    {x b : Addr} {A : Cell} {z : Int32} {v0 c0 : Value} (E : RoadKit.Exa Z h x ST) (V : RoadKit.Fld Z h x ST "value" "[B" v0) (C : RoadKit.Fld Z h x ST "coder" "B" c0) (K : RoadKit.Arr Z h b A .char) (hty : Typed .char A) (S : RoadKit.Sta Z h ST "COMPACT_STRINGS" "Z" (.int z)) (hz : ¬ z = 0)
    (l0 : 0 < A.slots.size) (l2 : A.slots.size ≤ 536870912) (hp : ∀ i, i < A.slots.size → ¬ 255 < cv A i) (hfr : 4 ≤ R.frames) (hlo : W + 65 ≤ R.locals) :
    Back l R p e below s args New1.yN len W (fun P a => a = #[.ref x, .ref b] ∧ P.U.heap = h ∧ P.cells + 1 ≤ R.cells ∧ P.slots + A.slots.size ≤ R.slots)
      (fun P _ v B => ∃ L, Q Z x A h v B.U.heap L ∧ B.locs = P.locs ++ L ∧ B.cells = P.cells + 1 ∧ B.slots = P.slots + A.slots.size) := by
  intro m meth c P g ig mk a X hg hsize hdg hW hn hp'
  obtain ⟨rfl, rfl, r1, r2⟩ := hp'
  have al : Z.vm.Alike P.U.vm := hZ.alike.trans X.warmed.alike
  obtain ⟨D, cfV, kV, iV, fV, hD, gV, stV, knV, obV, asV, slV⟩ := id V
  obtain ⟨D', cfC, kC, iC, fC, hD', gC, stC, -, -, asC, slC⟩ := id C
  cases hD.symm.trans hD'
  obtain ⟨D2, kD, e1, e2, e3, e4, e5⟩ := id E
  cases hD.symm.trans e1
  obtain ⟨c2, k2, i1, i2, i3, -⟩ := Cond.instantiable_spec wi
  cases e2.symm.trans i1
  cases e3.symm.trans i2
  obtain ⟨kU, u1, u2⟩ := al.2.2 _ _ e3
  have hB : Blank ST x D P.U := ⟨hD, ⟨knV, fun q hq => by rw [hq] at obV; cases obV⟩, by rw [al.findClass]; exact e2, kU, u1, by rw [u2]; exact i3, by rw [u2]; exact e5 i3⟩
  have F1 : Found ST "value" "[B" fV P.U := ⟨SBG.found_only al ⟨cfV, kV, iV, gV⟩, stV⟩
  have F2 : Found ST "coder" "B" fC P.U := ⟨SBG.found_only al ⟨cfC, kC, iC, gC⟩, stC⟩
  have hA : Ch b A P.U := ⟨⟨K.1, State.isArrayOf_alike al K.2.1, K.2.2, by omega⟩, hty⟩
  have hS : StaticIs P.U ST "COMPACT_STRINGS" "Z" (.int z) := by
    obtain ⟨cfS, iS, kS, fS, st, cS, t1, t2, t3, t4, t5, t6, t7⟩ := S
    exact StaticIs.there (s := { Z with heap := P.U.heap }) ⟨cfS, iS, kS, fS, st, cS, t1, t2, t3, t4, t5, (fun q => by rw [q] at t6; cases t6), t7⟩ al rfl
  obtain ⟨v, B, X', ⟨⟨hv, E', V', q1, q2, q3, q4, q5, q6, q7, q8, q9, q10, q11⟩, hl, hc, hs⟩, st⟩ := New1.pays x D fV fC b A z (tab_of (moved hZ hw)) hfr hlo m meth c P g ig mk _ X hg hsize hdg hW hn ⟨r1, r2, rfl, hB, F1, F2, hA, hS, hz, l0, l2, hp⟩
  have al' : Z.vm.Alike B.U.vm := hZ.alike.trans X'.warmed.alike
  have hsz : E'.slots.size = D.slots.size := by
    obtain ⟨-, -, -, kB, w1, w2, w3⟩ := q1
    obtain ⟨kB', y1, y2⟩ := al'.2.2 _ _ e3
    rw [q2.2.1] at w1
    cases w1.symm.trans y1
    rw [w3, e5 i3, y2]
  refine ⟨v, B, X', ⟨_, ⟨hv, ?_, ⟨by omega, fun y cy hy hn' => q10 y cy (by simpa using hn') hy, fun y cy hy => ?_⟩, q11, ⟨E', _, q1.1, by rw [q2.2.1]; exact e2, by rw [q2.2.1]; exact e3, by rw [q2.1]; exact obV, fun _ => by rw [hsz]; exact e5 i3⟩,
    ⟨E', cfV, kV, iV, fV, q1.1, gV, stV, by rw [q2.1]; exact knV, by rw [q2.1]; exact obV, by rw [q2.2.1]; exact asV, q3⟩, ⟨E', cfC, kC, iC, fC, q1.1, gC, stC, by rw [q2.1]; exact knV, by rw [q2.1]; exact obV, by rw [q2.2.1]; exact asC, q4⟩,
    ⟨V', ⟨q5.1, State.isArrayOf_alike al'.symm q5.2.1, q5.2.2.1⟩, q6, by rw [← al'.findClass]; exact q7, q8, fun j hj => by have := q9 j hj; rwa [Nat.zero_add] at this⟩, fun O n d w F n1 n2 => ?_⟩, hl, hc, hs⟩, st⟩
  · intro y hy
    simp only [List.mem_cons, List.not_mem_nil, or_false] at hy
    rcases hy with rfl | rfl <;> rfl
  · by_cases q : y = x
    · subst q
      cases hD.symm.trans hy
      exact ⟨E', q1.1, q2.2.1, q2.1, hsz⟩
    · exact ⟨cy, q10 y cy q hy, rfl, rfl, rfl⟩
  · obtain ⟨D3, cf, k, i, f, g1, g2, g3, g4, g5, g6, g7⟩ := F
    cases hD.symm.trans g1
    simp only [RoadKit.slotOf, g2, gV, gC, Option.map_some, Option.getD_some] at n1 n2
    exact ⟨E', cf, k, i, f, q1.1, g2, g3, by rw [q2.1]; exact g4, by rw [q2.1]; exact g5, by rw [q2.2.1]; exact g6, by rw [q2.2.2 f.slot (by simp [n1, n2])]; exact g7⟩
end StrChars.Road
namespace StrChars.Road
open Jvm Sem ClassFile Op Lib Jvm.Stand Jvm.Free Jvm.Free.XT
/-- WHAT COMES BACK, the byte[] as a list of values -/
def QA (Z : State) (x : Addr) (zn : Int32) (cs : List Int32) (h : Heap) (v : Option Value) (h' : Heap) (L : List Loc) : Prop := v = none ∧ (∀ y ∈ L, y.base = x) ∧ RoadKit.Keep h h' [x] ∧ h'.size = h.size + 1 ∧ RoadKit.Exa Z h' x ST ∧ RoadKit.Fld Z h' x ST "value" "[B" (.ref h.size) ∧ RoadKit.Fld Z h' x ST "coder" "B" (.int 0) ∧
  (∃ kb, Z.vm.findClass "[B" = some kb ∧ RoadKit.Arv Z h' h.size kb .byte zn (cs.map fun c => .int (lo8 c)) (.int 0)) ∧
  ∀ (O n d : String) (w : Value), RoadKit.Fld Z h x O n d w → RoadKit.slotOf Z O n d ≠ RoadKit.slotOf Z ST "value" "[B" → RoadKit.slotOf Z O n d ≠ RoadKit.slotOf Z ST "coder" "B" → RoadKit.Fld Z h' x O n d w
/-- **new String(chars) AT A CALL, THE ARRAYS AS LISTS**: the char[] at b holds cs, not empty, no char above 255 -/
theorem backArv {p : Program} {l : Launch} {e : Env} {R : Room} {s : State} {args : Array Value} {below : List Frame} {len W : Nat} {Z : State} {a0 : Array Value} {h : Heap} (hZ : Z.Warmed39 s.vm) (hw : ∀ d ∈ words, d.before a0 Z = true) {kI : Nat} (wi : (Jvm.Cond.instantiable ST kI).before a0 Z = true)
    {x b : Addr} {k : ClassId} {zn z : Int32} {cs : List Int32} {dv v0 c0 : Value} (E : RoadKit.Exa Z h x ST) (V : RoadKit.Fld Z h x ST "value" "[B" v0) (C : RoadKit.Fld Z h x ST "coder" "B" c0) (K : RoadKit.Arv Z h b k .char zn (cs.map Value.int) dv) (S : RoadKit.Sta Z h ST "COMPACT_STRINGS" "Z" (.int z)) (hz : ¬ z = 0)
    (hlen : zn.toNatClampNeg = cs.length) (h0 : 0 < cs.length) (hbig : cs.length ≤ 536870912) (hall : ∀ c ∈ cs, ¬ 255 < c) (hfr : 4 ≤ R.frames) (hlo : W + 65 ≤ R.locals) :
    Back l R p e below s args New1.yN len W (fun P a => a = #[.ref x, .ref b] ∧ P.U.heap = h ∧ P.cells + 1 ≤ R.cells ∧ P.slots + cs.length ≤ R.slots)
      (fun P _ v B => ∃ L, QA Z x zn cs h v B.U.heap L ∧ B.locs = P.locs ++ L ∧ B.cells = P.cells + 1 ∧ B.slots = P.slots + cs.length) := by
  obtain ⟨A, K1, K2, K3, K4, K5, K6⟩ := K
  have e : A.slots.size = cs.length := K3.trans hlen
  have hat : ∀ (i : Nat) (hi : i < cs.length), A.slots[i]? = some (.int cs[i]) := fun i hi => by rw [K5 i (by omega)]; simp [List.getD_eq_getElem?_getD, hi]
  have hcv : ∀ (i : Nat) (hi : i < cs.length), cv A i = cs[i] := fun i hi => by unfold cv; rw [hat i hi]
  have hty : Typed .char A := fun i v hv => by
    have hi : i < A.slots.size := (Array.getElem?_eq_some_iff.mp hv).1
    have q := K5 i hi
    rw [hv] at q
    rw [Option.some.inj q]
    exact K6 i hi
  refine Back.mono (back hZ hw wi E V C K1 hty S hz (by omega) (by omega) (fun i hi => by rw [hcv i (by omega)]; exact hall _ (List.getElem_mem _)) hfr hlo) (fun P a hp => ⟨hp.1, hp.2.1, hp.2.2.1, by rw [e]; exact hp.2.2.2⟩) (fun P a v B hp hq => ?_)
  obtain ⟨L, ⟨q1, q2, q3, q4, q5, q6, q7, ⟨V', v1, v2, v3, v4, v5⟩, q9⟩, hl, hc, hs⟩ := hq
  refine ⟨L, ⟨q1, q2, q3, q4, q5, q6, q7, ⟨V'.cls, v3, V', v1, rfl, by rw [v4, e, hlen], K4, fun i hi => ?_, fun i hi => ?_⟩, q9⟩, hl, hc, by rw [hs, e]⟩
  · have hi' : i < cs.length := by omega
    rw [v5 i (by omega), hcv i hi']; simp [List.getD_eq_getElem?_getD, hi']
  · have hi' : i < cs.length := by omega
    simp only [List.getD_eq_getElem?_getD, List.getElem?_map, List.getElem?_eq_getElem hi', Option.map_some, Option.getD_some]
    exact fits_lo8 _
end StrChars.Road
namespace StrChars.Road
open Jvm Sem ClassFile Op Lib Jvm.Stand Jvm.Free Jvm.Free.XT
/-- WHAT COMES BACK, in the writer's own shape -/
def QV (Z : State) (x : Addr) (N : Int32) (bs : List Int32) (h : Heap) (n0 : Nat) (v : Option Value) (h' : Heap) (L : List Loc) : Prop := v = none ∧ RoadKit.Fr n0 L ∧ RoadKit.Keep h h' [x] ∧ RoadKit.Exa Z h' x ST ∧ RoadKit.Fld Z h' x ST "coder" "B" (.int 0) ∧
  ∃ (t : Addr) (kb : ClassId), n0 ≤ t ∧ h.size ≤ t ∧ ¬ t = x ∧ RoadKit.Fld Z h' x ST "value" "[B" (.ref t) ∧ RoadKit.Arv Z h' t kb .byte N (bs.map Value.int) (.int 0)
/-- **new String(chars) AT A CALL, FOR THE WRITER**: a char[] of n known ints, each 0 to 255 -/
theorem backV {p : Program} {l : Launch} {e : Env} {R : Room} {s : State} {args : Array Value} {below : List Frame} {len W : Nat} {Z : State} {a0 : Array Value} {h : Heap} (hZ : Z.Warmed39 s.vm) (hw : ∀ d ∈ words, d.before a0 Z = true) {kI : Nat} (wi : (Jvm.Cond.instantiable ST kI).before a0 Z = true)
    {x b : Addr} {kC : ClassId} {cs bs : List Int32} {d v0 c0 : Value} {z N : Int32} {n n0 : Nat} (hx0 : n0 ≤ x) (hh0 : n0 ≤ h.size) (E : RoadKit.Exa Z h x ST) (V : RoadKit.Fld Z h x ST "value" "[B" v0) (C : RoadKit.Fld Z h x ST "coder" "B" c0) (K : RoadKit.Arv Z h b kC .char N (cs.map Value.int) d) (S : RoadKit.Sta Z h ST "COMPACT_STRINGS" "Z" (.int z)) (hz : ¬ z = 0)
    (hn : cs.length = n) (hN : N = Int32.ofNat n) (l0 : 0 < n) (l2 : n ≤ 4000) (hp : ∀ c ∈ cs, ¬ c < 0 ∧ ¬ (255 : Int32) < c) (hb : bs = cs.map (fun c => c.toInt8.toInt32)) (hfr : 4 ≤ R.frames) (hlo : W + 65 ≤ R.locals) :
    Back l R p e below s args (⟨"java/lang/String", "<init>", "([C)V"⟩ : MethodName) len W (fun P a => a = #[.ref x, .ref b] ∧ P.U.heap = h ∧ P.cells + 1 ≤ R.cells ∧ P.slots + n ≤ R.slots)
      (fun P _ v B => ∃ L, QV Z x N bs h n0 v B.U.heap L ∧ B.locs = P.locs ++ L ∧ B.cells = P.cells + 1 ∧ B.slots = P.slots + n) := by
  subst hn hN hb
  refine Back.mono (backArv hZ hw wi E V C K S hz (n32 (by omega)) l0 (by omega) (fun c hc => (hp c hc).2) hfr hlo) (fun P a hp => hp) (fun P a v B hp hq => ?_)
  obtain ⟨L, ⟨q1, q2, q3, q4, q5, q6, q7, ⟨kb, v1, v2⟩, q9⟩, hl, hc, hs⟩ := hq
  exact ⟨L, ⟨q1, fun y hy => by rw [q2 y hy]; exact hx0, q3, q5, q7, h.size, kb, hh0, Nat.le_refl _, Nat.ne_of_gt E.lt, q6, by rw [List.map_map]; exact v2⟩, hl, hc, hs⟩
end StrChars.Road
namespace StrChars
open Jvm Sem ClassFile Op Lib Jvm.Stand Jvm.Free.XT Jvm.Free.ALB Jvm.Free.JM Jvm.Free
open Jvm.Lib.Cold (StaticIs)
def hi8 (x : Int32) : Int32 := lo8 (x >>> ((8 : Int32) &&& 31))
/-- what StringUTF16.getChar makes of two bytes -/
def pairCh (u v : Int32) : Int32 := (((u &&& 255) <<< ((0 : Int32) &&& 31)) ||| ((v &&& 255) <<< ((8 : Int32) &&& 31))).toUInt32.toUInt16.toUInt32.toInt32
theorem shr0 (c : Int32) : c >>> ((0 : Int32) &&& 31) = c := by
  have e : ((0 : Int32) &&& 31) = 0 := by decide
  rw [e]
  apply Int32.toBitVec_inj.mp
  rw [Int32.toBitVec_shiftRight]
  have e1 : ((0 : Int32).toBitVec.smod 32) = 0#32 := by decide
  rw [e1, BitVec.sshiftRight_eq']
  exact BitVec.sshiftRight_zero
theorem lo8_and (x : Int32) : (lo8 x &&& 255).toBitVec.toNat = x.toBitVec.toNat % 256 := by
  have h : (lo8 x).toBitVec = (x.toBitVec.signExtend 8).signExtend 32 := by rw [lo8, Int8.toBitVec_toInt32, Int32.toBitVec_toInt8]
  rw [Int32.toBitVec_and, BitVec.toNat_and, h]
  have e : ((x.toBitVec.signExtend 8).signExtend 32).toNat % 256 = x.toBitVec.toNat % 256 := by
    rw [BitVec.toNat_signExtend]
    have hlt := x.toBitVec.isLt
    simp only [BitVec.toNat_setWidth, BitVec.toNat_signExtend]
    split <;> split <;> omega
  rw [← e]
  exact Nat.and_two_pow_sub_one_eq_mod _ 8
theorem pair_says {c : Int32} (h0 : ¬ c < 0) (h1 : ¬ 65535 < c) : pairCh (lo8 c) (hi8 c) = c := by
  rw [Int32.lt_iff_toInt_lt] at h0 h1
  have e0 : (0 : Int32).toInt = 0 := rfl
  have e1 : (65535 : Int32).toInt = 65535 := rfl
  have hc : c.toInt = c.toBitVec.toNat := by
    have := c.toBitVec.isLt
    have e : c.toInt = c.toBitVec.toInt := rfl
    rw [e] at h0 h1
    rw [e]
    rw [BitVec.toInt_eq_toNat_cond] at h0 h1 ⊢
    split at h0 <;> split <;> omega
  have hn : c.toBitVec.toNat < 65536 := by omega
  have a1 := lo8_and c
  have a2 : (hi8 c &&& 255).toBitVec.toNat = c.toBitVec.toNat / 256 := by
    rw [hi8, lo8_and]
    have e : ((8 : Int32) &&& 31) = 8 := by decide
    rw [e, Int32.toBitVec_shiftRight]
    have e2 : ((8 : Int32).toBitVec.smod 32) = 8#32 := by decide
    rw [e2, BitVec.sshiftRight_eq', BitVec.toNat_sshiftRight_of_msb_false (by rw [BitVec.msb_eq_false_iff_two_mul_lt]; omega)]
    show c.toBitVec.toNat >>> 8 % 256 = _
    rw [Nat.shiftRight_eq_div_pow]
    omega
  unfold pairCh
  apply Int32.toBitVec_inj.mp
  apply BitVec.eq_of_toNat_eq
  have f0 : ((0 : Int32) &&& 31) = 0 := by decide
  have f8 : ((8 : Int32) &&& 31) = 8 := by decide
  rw [f0, f8]
  have g : (((lo8 c &&& 255) <<< (0 : Int32)) ||| ((hi8 c &&& 255) <<< (8 : Int32))).toBitVec.toNat = c.toBitVec.toNat := by
    rw [Int32.toBitVec_or, Int32.toBitVec_shiftLeft, Int32.toBitVec_shiftLeft]
    have s0 : ((0 : Int32).toBitVec.smod 32) = 0#32 := by decide
    have s8 : ((8 : Int32).toBitVec.smod 32) = 8#32 := by decide
    rw [s0, s8, BitVec.toNat_or]
    simp only [BitVec.shiftLeft_eq', BitVec.toNat_shiftLeft, a1, a2]
    show (c.toBitVec.toNat % 256) <<< 0 % 2 ^ 32 ||| (c.toBitVec.toNat / 256) <<< 8 % 2 ^ 32 = _
    rw [Nat.shiftLeft_zero, Nat.mod_eq_of_lt (show c.toBitVec.toNat % 256 < 2 ^ 32 by omega), Nat.mod_eq_of_lt (show (c.toBitVec.toNat / 256) <<< 8 < 2 ^ 32 by rw [Nat.shiftLeft_eq]; omega), Nat.or_comm, ← Nat.shiftLeft_add_eq_or_of_lt (by omega), Nat.shiftLeft_eq]
    omega
  show BitVec.toNat (((((lo8 c &&& 255) <<< (0 : Int32)) ||| ((hi8 c &&& 255) <<< (8 : Int32))).toBitVec.setWidth 16).setWidth 32) = _
  rw [BitVec.toNat_setWidth, BitVec.toNat_setWidth, g]
  omega
end StrChars
end Jvm.Pilot.@@N@@
namespace Jvm.Pilot.@@N@@
open Jvm Jvm.ClassFile Sem Op Lib Jvm.Free Jvm.Stand Jvm.LawKit Jvm.RoadKit Bundle Jvm.Own Jvm.Pilot.@@N@@.Jvm.D
theorem pnST : plainFor (⟨"java/lang/String", n, d⟩ : MethodName) = true := plainFor_of_name (by first | (simp [plainName, overriddenIn]; done) | decide +kernel)
abbrev i4N : MethodName := ⟨"java/lang/String", "<init>", "([CIILjava/lang/Void;)V"⟩
abbrev i1N : MethodName := ⟨"java/lang/String", "<init>", "([C)V"⟩
abbrev eqN : MethodName := ⟨"java/lang/String", "equals", "(Ljava/lang/Object;)Z"⟩
theorem pd_i4 : parseMethodDescriptor "([CIILjava/lang/Void;)V" = some ⟨[.array .char, .int, .int, .object "java/lang/Void"], none⟩ := by decide +kernel
theorem pd_i1 : parseMethodDescriptor "([C)V" = some ⟨[.array .char], none⟩ := by decide +kernel
theorem pd_eq : parseMethodDescriptor "(Ljava/lang/Object;)Z" = some ⟨[.object "java/lang/Object"], some .boolean⟩ := by decide +kernel
/-- the words of the empty String's road -/
abbrev wE : List Jvm.Cond := [.methodLink sST 1 Lib.objectInit, .instanceMethod Lib.objectInit, .code Lib.objectInit ⟨#[0xb1]⟩ 1 none, .stringLink sST 7 "", .fieldLink sST 9 sST "value" "[B", .fieldLink sST 15 sST "coder" "B",
  .laysFinal sST sST "value" "[B", .laysFinal sST sST "coder" "B", .instantiable sST 4, .initialized sST, .methodLink sST 27 i4N, .instanceMethod i4N, .code i4N jdk_42_method_149_code 6 none, .code i1N jdk_42_method_3_code 2 none] ++ Bundle.stringAtoms
theorem ef4 (m : MethodId) (a b : Addr) : entryFrame m #[.ref a, .ref b, .int 0, .int 0, .null] 6 = fr m 0 [.val (.ref a), .val (.ref b), .val (.int 0), .val (.int 0), .val .null, .unset] [] := by first | (simp [entryFrame, mkF, argsToLocals, Value.category]; done) | rfl
theorem ef1 (m : MethodId) (a b : Addr) : entryFrame m #[.ref a, .ref b] 2 = fr m 0 [.val (.ref a), .val (.ref b)] [] := by first | (simp [entryFrame, mkF, argsToLocals, Value.category]; done) | rfl
set_option maxRecDepth 65536 in
set_option maxHeartbeats 4000000 in
theorem new4e (l : Launch) {Z : State} {a0 : Array Value} {n0 : Nat} {h : Heap} {a b : Addr} (hw : ∀ d ∈ wE, d.before a0 Z = true) (hEL : EW Z a0 consts_1) (O : Old Z n0 h) (B : Blk Z a0 n0 h a sST) :
    Con l Z consts_1 n0 [] i4N jdk_42_method_149_code 6 none ({ frames := 1, cells := 2, slots := 4, locals := 12 } : Room) #[.ref a, .ref b, .int 0, .int 0, .null] h (Ret0 fun h' => Keep h h' [a] ∧ Str Z h' a []) := by
  have wV := hw (.fieldLink sST 9 sST "value" "[B") (List.mem_of_getElem? (i := 4) rfl)
  have wC := hw (.fieldLink sST 15 sST "coder" "B") (List.mem_of_getElem? (i := 5) rfl)
  have wlV := hw (.laysFinal sST sST "value" "[B") (List.mem_of_getElem? (i := 6) rfl)
  have wlC := hw (.laysFinal sST sST "coder" "B") (List.mem_of_getElem? (i := 7) rfl)
  have wi := hw (.instantiable sST 4) (List.mem_of_getElem? (i := 8) rfl)
  have wL := hw (.stringLink sST 7 "") (List.mem_of_getElem? (i := 3) rfl)
  have wS : ∀ a ∈ Bundle.stringAtoms, a.before a0 Z = true := fun d hd => hw d (List.mem_append_right _ hd)
  refine Con.intro pnST O hEL ?_
  intro p e s m below meth c T C hs P
  refine Run.cast (ef4 m a b) ?_
  refine blk C P [.aload_n 0] (by decide +kernel) rfl ?_
  refine s_initO C P (idx := 1) (by decide +kernel) (hw _ (List.mem_of_getElem? (i := 0) rfl)) (hw _ (List.mem_of_getElem? (i := 1) rfl)) (hw _ (List.mem_of_getElem? (i := 2) rfl)) rfl (by decide) (W := 0) (Nat.le_of_ble_eq_true rfl) (by decide) (pc' := 4) rfl (fun T1 P1 => ?_)
  refine blk C P1 [.iload_n 3] (by decide +kernel) rfl ?_
  refine b_ifN C P1 (cd := .ne) (o := 22) (by decide +kernel) (pc' := 8) rfl rfl ?_
  refine blk C P1 [.aload_n 0] (by decide +kernel) (pc' := 9) rfl ?_
  obtain ⟨vm0, k0, locs, X, eT, hS, hk, hC, hF, hO, hZ, hown⟩ := P1.opened C
  have hb' := C.2.2.2.1
  obtain ⟨q, T2, h2, k2, bb, kb, X2, e2, E2, hS2, hk2, hZ2, hown2, r1, r2, r3, r4, r5, r6, hC2, hLit, hne, st2⟩ := ldcCH X C.1 hZ hown wL wS eT hS hk hEL (by decide +kernel : ("java/lang/String", 7) ∈ consts_1) hC.1 (vs := []) (z := 0) ⟨by decide, by decide⟩ (by decide) (by decide) (g := fr m 9 [.val (.ref a), .val (.ref b), .val (.int 0), .val (.int 0), .val .null, .unset] [.ref a]) rfl (hb hb' (pc := 9) (by decide +kernel)) (n := 0) (by decide) (by decide) (by decide) (by decide)
  refine Run.go st2 ?_
  have B2 := B.ext E2
  have Fv : Fld Z h2 a sST "value" "[B" .null := B2.2.2 (Or.inr wlV) (ty := .array .byte) (by decide)
  have Fc : Fld Z h2 a sST "coder" "B" (.int 0) := B2.2.2 (Or.inr wlC) (ty := .byte) (by decide)
  have nqa : q ≠ a := Fld.ne r3 Fv (by simp)
  have nba : bb ≠ a := (B2.2.1.neArv r4 wi).symm
  have sne : RoadKit.slotOf Z sST "coder" "B" ≠ RoadKit.slotOf Z sST "value" "[B" := slot_ne (C := sST) (Or.inr wlC) (Or.inr wlV) (by decide) (t := .byte) (by decide) (t' := .array .byte) (by decide)
  obtain ⟨T3, X3, e3, st3⟩ := getF X2 C.1 hZ2 hown2 (host := "") (Or.inl wV) Via.refl e2 r3 (g := fr m 11 [.val (.ref a), .val (.ref b), .val (.int 0), .val (.int 0), .val .null, .unset] [.ref q, .ref a]) rfl rfl (hb hb' (pc := 11) (by decide +kernel))
  refine Run.go st3 ?_
  obtain ⟨T4, h4, X4, e4, W4, st4⟩ := putF X3 C.1 hZ2 hown2 (host := "") (Or.inl wV) Via.refl e3 Fv B2.2.1 (Or.inr ⟨wlV, rfl, C.2.2.2.2.2.2.1⟩) wi (ty := .array .byte) (by decide) rfl rfl (v := .ref bb) (g := fr m 14 [.val (.ref a), .val (.ref b), .val (.int 0), .val (.int 0), .val .null, .unset] [.ref bb, .ref a]) rfl rfl (hb hb' (pc := 14) (by decide +kernel))
  refine Run.go st4 ?_
  refine Run.go (fun t z => XS.aloadN X4.here C.1 (k := 0) rfl (hb hb' (pc := 17) (by decide +kernel)) ((lget_eq _ _).trans rfl) rfl z) ?_
  refine Run.go (ldcAgain X4 C.1 hZ2 hown2 wL hLit (g := fr m 18 [.val (.ref a), .val (.ref b), .val (.int 0), .val (.int 0), .val .null, .unset] [.ref a]) rfl (hb hb' (pc := 18) (by decide +kernel))) ?_
  have Gc : Fld Z h4 q sST "coder" "B" (.int 0) := r2.other W4 (Or.inl nqa)
  obtain ⟨T5, X5, e5, st5⟩ := getF X4 C.1 hZ2 hown2 (host := "") (Or.inl wC) Via.refl e4 Gc (g := fr m 20 [.val (.ref a), .val (.ref b), .val (.int 0), .val (.int 0), .val .null, .unset] [.ref q, .ref a]) rfl rfl (hb hb' (pc := 20) (by decide +kernel))
  refine Run.go st5 ?_
  have Fc4 : Fld Z h4 a sST "coder" "B" (.int 0) := Fc.other W4 (Or.inr sne)
  have A4 : Exa Z h4 a sST := B2.2.1.wr W4
  obtain ⟨T6, h6, X6, e6, W6, st6⟩ := putF X5 C.1 hZ2 hown2 (host := "") (Or.inl wC) Via.refl e5 Fc4 A4 (Or.inr ⟨wlC, rfl, C.2.2.2.2.2.2.1⟩) wi (ty := .byte) (by decide) rfl rfl (v := .int 0) (g := fr m 23 [.val (.ref a), .val (.ref b), .val (.int 0), .val (.int 0), .val .null, .unset] [.int 0, .ref a]) rfl rfl (hb hb' (pc := 23) (by decide +kernel))
  refine Run.go st6 ?_
  have S2 : Safe Z consts_1 T2.vm h2 a := safe_blank hZ2.alike B2.2.1 Fv
  have S4 : Safe Z consts_1 T2.vm h4 a := Safe.wr W4 S2 hC2.1 S2
  have R4 := CHr.wr W4 S2 hC2.1
  have R6 := CHr.wr W6 S4 R4.1
  have P6 : Pos Z consts_1 n0 p l e ({ frames := 1, cells := 2, slots := 4, locals := 12 } : Room) s m #[.ref a, .ref b, .int 0, .int 0, .null] below meth c T6 h6 (0 + 2) (0 + (0 + 4)) :=
    ⟨T2.vm, k2, _, X6, e6, hS2, by rw [W6.size, W4.size]; exact hk2, hC.trans (hC2.trans (R4.trans R6)), Fr.snoc X6 (Fr.snoc X4 hF B.1) B.1, ((hO.ext E2).wr W4 B.1).wr W6 B.1⟩
  refine r_void C P6 (pc := 26) (by decide +kernel) (by decide) (by decide) ⟨rfl, ?_, ?_⟩
  · exact (((Keep.refl h [a]).ext E2).wr W4 (Or.inl (by simp))).wr W6 (Or.inl (by simp))
  · exact ⟨by decide, lat0, A4.wr W6, Fc4.same W6, bb, kb, (Fv.same W4).other W6 (Or.inr sne.symm), (r4.other W4 nba).other W6 nba⟩
set_option maxRecDepth 65536 in
set_option maxHeartbeats 4000000 in
theorem new1e (l : Launch) {Z : State} {a0 : Array Value} {n0 : Nat} {h : Heap} {a b : Addr} (hw : ∀ d ∈ wE, d.before a0 Z = true) (hEL : EW Z a0 consts_1) (O : Old Z n0 h) (B : Blk Z a0 n0 h a sST) (V : Chs Z n0 h b []) :
    Con l Z consts_1 n0 [] i1N jdk_42_method_3_code 2 none ({ frames := 2, cells := 2, slots := 4, locals := 30 } : Room) #[.ref a, .ref b] h (Ret0 fun h' => Keep h h' [a] ∧ Str Z h' a []) := by
  refine Con.intro pnST O hEL ?_
  intro p e s m below meth c T C hs P
  refine Run.cast (ef1 m a b) ?_
  refine blk C P [.aload_n 0, .aload_n 1, .iconst 0, .aload_n 1] (by decide +kernel) (pc' := 4) rfl ?_
  obtain ⟨-, -, kb, A⟩ := V
  refine s_alen C P (by decide +kernel) A (pc' := 5) rfl ?_
  refine blk C P [.aconst_null] (by decide +kernel) (pc' := 6) rfl ?_
  refine c_special C P (y := i4N) rfl (by decide +kernel) (hw _ (List.mem_of_getElem? (i := 10) rfl)) (hw _ (List.mem_of_getElem? (i := 11) rfl)) (hw _ (List.mem_of_getElem? (i := 9) rfl)) (hw _ (List.mem_of_getElem? (i := 12) rfl)) (by decide) [.ref b, .int 0, .int 0, .null] [] (new4e l hw hEL O B) (by decide) (W := 0) (by decide) pd_i4 rfl rfl rfl (Nat.le_of_ble_eq_true rfl) (by decide) (by decide) (pc' := 9) rfl (fun T1 h1 P1 q => ?_)
  exact r_void C P1 (by decide +kernel) (by decide) (by decide) ⟨rfl, q⟩
section Use
variable {Z : State} {a0 : Array Value} {n0 : Nat} {p : Program} {l : Launch} {e : Env} {R : Room} {s : State} {m : MethodId} {args : Array Value} {below : List Frame} {meth : Method} {c : Code} {own name : String} {bytes : ByteArray} {maxL : Nat} {ret : Option FieldType}
  {F : State → Outcome → Prop} {T : State} {h : Heap} {k n : Nat} {pc pc' : Nat} {L : List Slot} {S : List Value} {W idx : Nat}
set_option maxRecDepth 65536 in
set_option maxHeartbeats 4000000 in
/-- new String(char[]), the empty array too -/
theorem c_newStr (C : Ctx Z a0 consts_1 p s m meth c own name bytes maxL ret) (P : Pos Z consts_1 n0 p l e R s m args below meth c T h k n) (hw : ∀ d ∈ tables_1, d.before a0 Z = true) {z : Int32} (Sz : Sta Z Z.heap sST "COMPACT_STRINGS" "Z" (.int z)) (hz : ¬ z = 0) {a b : Addr} {cs : List Int32} {rest : List Value} (hd : decode bytes pc = .ok (.invokespecial idx, 3)) (w1 : (Jvm.Cond.methodLink own idx i1N).before a0 Z = true) (w2 : (Jvm.Cond.instanceMethod i1N).before a0 Z = true)
    (B : Blk Z a0 n0 h a sST) (V : Chs Z n0 h b cs) (hcs : ∀ c ∈ cs, ¬ c < 0 ∧ ¬ (255 : Int32) < c) (hL : L.length = maxL) (hW : (rest.map fun v => v.category).sum ≤ W) (hfr : 4 ≤ R.frames) (hlo : W + 65 ≤ R.locals) (hc : k + 2 ≤ R.cells) (hl : n + (cs.length + 4) ≤ R.slots) (hq : pc + 3 = pc')
    (r : ∀ T' h', Pos Z consts_1 n0 p l e R s m args below meth c T' h' (k + 2) (n + (cs.length + 4)) → Keep h h' [a] → Str Z h' a cs → Run p.tables e below F T' (fr m pc' L rest)) : Run p.tables e below F T (fr m pc L (.ref b :: .ref a :: rest)) := by
  have hE : ∀ d ∈ wE, d.before a0 Z = true := fun d hd => hw d ((by decide +kernel : ∀ d ∈ wE, d ∈ tables_1) d hd)
  have wlV := hE (.laysFinal sST sST "value" "[B") (List.mem_of_getElem? (i := 6) rfl)
  have wlC := hE (.laysFinal sST sST "coder" "B") (List.mem_of_getElem? (i := 7) rfl)
  have wi := hE (.instantiable sST 4) (List.mem_of_getElem? (i := 8) rfl)
  have wz := hE (.initialized sST) (List.mem_of_getElem? (i := 9) rfl)
  have wc := hE (.code i1N jdk_42_method_3_code 2 none) (List.mem_of_getElem? (i := 13) rfl)
  cases cs with
  | nil =>
    refine c_special C P (y := i1N) (ybytes := jdk_42_method_3_code) (ymax := 2) (yrm := ({ frames := 2, cells := 2, slots := 4, locals := 30 } : Room)) rfl hd w1 w2 wz wc (by decide) [.ref b] rest (new1e l hE C.2.2.2.2.2.2.2.2 P.old B V) (by show 2 + 1 ≤ _; omega) (W := W) (by show W + (2 + 11) + 30 ≤ _; omega) pd_i1 rfl rfl hL hW hc (by simpa using hl) hq (fun T1 h1 P1 q => ?_)
    exact r T1 h1 (by simpa using P1) q.1 q.2
  | cons c0 cr =>
    subst hq
    have hws : ∀ d ∈ StrChars.Road.words, d.before a0 Z = true := fun d hd => hw d ((by decide +kernel : ∀ d ∈ StrChars.Road.words, d ∈ tables_1) d hd)
    have Fv : Fld Z h a sST "value" "[B" .null := B.2.2 (Or.inr wlV) (ty := .array .byte) (by decide)
    have Fc : Fld Z h a sST "coder" "B" (.int 0) := B.2.2 (Or.inr wlC) (ty := .byte) (by decide)
    obtain ⟨-, hlen, kb, A⟩ := V
    have Sh := Sz.ext P.z
    have hn0 := P.n0le
    obtain ⟨vm0, k0, locs, X, eT, hS, hk, hC, hF, hO, hZ, hown⟩ := P.opened C
    obtain ⟨_, _, ⟨U, Ls, kk, nn⟩, -, X', ⟨Lc, hQ, l1, l2, l3⟩, st⟩ := X.specialBack C.1 (y := i1N) rfl hown (mvT hZ w1) (mvT hZ w2) (mvT hZ wc) (by decide) (StrChars.Road.backV (W := W) hZ hws (kI := 4) wi (cs := c0 :: cr) (bs := (c0 :: cr).map (fun c => c.toInt8.toInt32)) (n := (c0 :: cr).length) B.1 hn0 B.2.1 Fv Fc A Sh hz rfl rfl (by simp) hlen hcs rfl hfr hlo) (g := fr m pc L (.ref b :: .ref a :: rest)) rfl (by rw [C.2.2.2.2.1]; exact hL) (Steps.refl _) (a := a) (argsL := [.ref b]) (rest := rest) (lenOf pd_i1 rfl) rfl (by show 2 * 0 + _ ≤ _; omega) (hb C.2.2.2.1 hd) (fun _ _ => ⟨rfl, eT, by show k + 1 ≤ _; omega, by show n + (c0 :: cr).length ≤ _; omega⟩)
    dsimp only [Pt.U, Pt.locs, Pt.cells, Pt.slots] at X' hQ l1 l2 l3 st
    subst l1 l2 l3
    obtain ⟨rfl, N, K, g1, g2, t, kb', g3, g4, g5, g6, g7⟩ := hQ
    have Sa : ∀ x ∈ [a], Safe Z consts_1 vm0 h x := fun x hx => by cases List.mem_singleton.mp hx; exact safe_blank hZ.alike B.2.1 Fv
    have hR := CHr.keep K Sa hC.1
    refine Run.after st (r U U.heap ⟨vm0, k0, _, X'.more (by omega) (by omega), rfl, hS, Nat.le_trans hk K.1, hC.trans hR, hF.app N, hO.keep K (allS B.1 all0)⟩ K ⟨hlen, hcs, g1, g2, t, kb', g6, g7⟩)
end Use
end Jvm.Pilot.@@N@@
namespace Jvm.Pilot.@@N@@
open Jvm Jvm.ClassFile Sem Op Lib Jvm.Free Jvm.Stand Jvm.LawKit Jvm.RoadKit Bundle Jvm.Own Jvm.Pilot.@@N@@.Jvm.D
def Wd (Z : State) (a0 : Array Value) (z : Int32) (fm : Value) : Prop := (∀ d ∈ tables_1, d.before a0 Z = true) ∧ EW Z a0 consts_1 ∧ Sta Z Z.heap sST "COMPACT_STRINGS" "Z" (.int z) ∧ (¬ z = 0) ∧ Sta Z Z.heap "java/lang/StringUTF16" "$assertionsDisabled" "Z" (.int 1) ∧ Sta Z Z.heap "java/lang/StringUTF16" "HI_BYTE_SHIFT" "I" (.int 0) ∧ Sta Z Z.heap "java/lang/StringUTF16" "LO_BYTE_SHIFT" "I" (.int 8) ∧ Sta Z Z.heap "jdk/internal/util/Preconditions" "SIOOBE_FORMATTER" "Ljava/util/function/BiFunction;" fm ∧ fm.isRef = true
theorem pair_w {x : Int32} (q : c16 x = x) : pairc (wlo x) (whi x) = x := by
  have h := StrChars.pair_says (c16_rng q).1 (c16_rng q).2
  have e : wlo x = StrChars.lo8 x := by
    show (x >>> ((0 : Int32) &&& 31)).toInt8.toInt32 = x.toInt8.toInt32
    rw [StrChars.shr0]
  rw [e]; exact h
/-- a lost sign among them -/
def Lost (cs : List Int32) : Prop := (65533 : Int32) ∈ cs
theorem lost0 : ¬ Lost [] := fun h => by cases h
theorem lostY {c : Int32} {r : List Int32} (h : c = 65533) : Lost (c :: r) := by rw [h]; exact List.mem_cons_self
theorem lostS {c : Int32} {r : List Int32} (h : Lost r) : Lost (c :: r) := List.mem_cons_of_mem _ h
theorem lostN {c : Int32} {r : List Int32} (h : ¬ c = 65533) (hr : ¬ Lost r) : ¬ Lost (c :: r) := fun q => (List.mem_cons.mp q).elim (fun e => h e.symm) hr
theorem not65533 {c : Int32} (h : ¬ (255 : Int32) < c) : ¬ c = 65533 := fun e => h (by rw [e]; decide)
theorem k_gc0_ef (m : MethodId) (b : Addr) (x : Int32) : entryFrame m #[.ref b, .int (0 : Int32)] 2 = fr m 0 [.val (.ref b), .val (.int (0 : Int32))] [] := by first | (simp [entryFrame, mkF, argsToLocals, Value.category]; done) | rfl
set_option maxRecDepth 65536 in
set_option maxHeartbeats 4000000 in
theorem k_gc0 (l : Launch) {Z : State} {a0 : Array Value} {n0 : Nat} {h : Heap} {z : Int32} {fm : Value} (wd : Wd Z a0 z fm) (b : Addr) (x : Int32) {vs : List Int32} (O : Old Z n0 h) (B : Bys Z n0 h b vs) (e0 : vs[0]? = some (wlo x)) (e1 : vs[1]? = some (whi x)) (hx : c16 x = x) :
    Con l Z consts_1 n0 [] (⟨"java/lang/StringUTF16", "getChar", "([BI)C"⟩ : MethodName) jdk_52_method_5_code 2 (some .char) ({ frames := 0, cells := 0, slots := 0, locals := 0 } : Room) #[.ref b, .int (0 : Int32)] h (Ret1 fun v h' => v = .int x ∧ h = h') := by
  obtain ⟨hw, hEL, Sz, hz, SA, SH, SL, SF, hfm⟩ := id wd
  refine Con.intro (plainFor_of_name (by first | (simp [plainName, overriddenIn]; done) | decide +kernel)) O hEL ?_
  intro p e s m below meth c T C hs P
  have C : Ctx Z a0 consts_1 p s m meth c "java/lang/StringUTF16" "getChar" jdk_52_method_5_code 2 (some .char) := C
  refine Run.cast (k_gc0_ef m b x) ?_
  refine s_gets C P (idx := 44) (by decide +kernel) (hw _ (List.mem_of_getElem? (i := 89) rfl)) SA (pc' := 3) rfl (fun T1 P1 => ?_)
  refine b_ifY C P1 (cd := .ne) (o := 25) (by decide +kernel) (pc' := 28) (by decide) (by decide : ¬ (1 : Int32) = 0) ?_
  refine blk C P1 [.iload_n 1, .iconst 1, .ishl, .istore_n 1, .aload_n 0, .iload_n 1, .iinc 1 1] (by decide +kernel) (pc' := 37) (L' := [.val (.ref b), .val (.int (1 : Int32))]) (S' := [.int (0 : Int32), .ref b]) rfl ?_
  refine s_ldB C P1 0 (x := (wlo x)) (by decide +kernel) B rfl e0 (pc' := 38) rfl ?_
  refine blk C P1 [.sipush 255, .iand] (by decide +kernel) (pc' := 42) (L' := [.val (.ref b), .val (.int (1 : Int32))]) (S' := [.int ((wlo x) &&& (255 : Int32))]) rfl ?_
  refine s_gets C P1 (idx := 59) (by decide +kernel) (hw _ (List.mem_of_getElem? (i := 90) rfl)) SH (pc' := 45) rfl (fun T2 P2 => ?_)
  refine blk C P2 [.ishl, .aload_n 0, .iload_n 1] (by decide +kernel) (pc' := 48) (L' := [.val (.ref b), .val (.int (1 : Int32))]) (S' := [.int (1 : Int32), .ref b, .int (((wlo x) &&& (255 : Int32)) <<< ((0 : Int32) &&& 31))]) rfl ?_
  refine s_ldB C P2 1 (x := (whi x)) (by decide +kernel) B rfl e1 (pc' := 49) rfl ?_
  refine blk C P2 [.sipush 255, .iand] (by decide +kernel) (pc' := 53) (L' := [.val (.ref b), .val (.int (1 : Int32))]) (S' := [.int ((whi x) &&& (255 : Int32)), .int (((wlo x) &&& (255 : Int32)) <<< ((0 : Int32) &&& 31))]) rfl ?_
  refine s_gets C P2 (idx := 63) (by decide +kernel) (hw _ (List.mem_of_getElem? (i := 91) rfl)) SL (pc' := 56) rfl (fun T3 P3 => ?_)
  refine blk C P3 [.ishl, .ior, .i2c] (by decide +kernel) (pc' := 59) (L' := [.val (.ref b), .val (.int (1 : Int32))]) (S' := [.int (c16 ((((wlo x) &&& (255 : Int32)) <<< ((0 : Int32) &&& 31)) ||| (((whi x) &&& (255 : Int32)) <<< ((8 : Int32) &&& 31))))]) rfl ?_
  exact r_int C P3 (ty := .char) (by simp) (c16_nar _) (by decide +kernel) (le_ _ _ rfl) (le_ _ _ rfl) ⟨_, rfl, ⟨congrArg Value.int (pair_w hx), rfl⟩⟩
theorem k_pc0_ef (m : MethodId) (b : Addr) (x : Int32) : entryFrame m #[.ref b, .int (0 : Int32), .int x] 3 = fr m 0 [.val (.ref b), .val (.int (0 : Int32)), .val (.int x)] [] := by first | (simp [entryFrame, mkF, argsToLocals, Value.category]; done) | rfl
set_option maxRecDepth 65536 in
set_option maxHeartbeats 4000000 in
theorem k_pc0 (l : Launch) {Z : State} {a0 : Array Value} {n0 : Nat} {h : Heap} {z : Int32} {fm : Value} (wd : Wd Z a0 z fm) (b : Addr) (x : Int32) {vs : List Int32} (O : Old Z n0 h) (B : Bys Z n0 h b vs) (hi : 1 < vs.length) :
    Con l Z consts_1 n0 [] (⟨"java/lang/StringUTF16", "putChar", "([BII)V"⟩ : MethodName) jdk_52_method_4_code 3 none ({ frames := 0, cells := 0, slots := 0, locals := 0 } : Room) #[.ref b, .int (0 : Int32), .int x] h (Ret0 fun h' => Keep h h' [b] ∧ Bys Z n0 h' b ((vs.set 0 (wlo x)).set 1 (whi x))) := by
  obtain ⟨hw, hEL, Sz, hz, SA, SH, SL, SF, hfm⟩ := id wd
  refine Con.intro (plainFor_of_name (by first | (simp [plainName, overriddenIn]; done) | decide +kernel)) O hEL ?_
  intro p e s m below meth c T C hs P
  have C : Ctx Z a0 consts_1 p s m meth c "java/lang/StringUTF16" "putChar" jdk_52_method_4_code 3 none := C
  have hE : ∀ p ∈ consts_1, (Jvm.Cond.stringLink p.1 p.2 "").before a0 Z = true := fun p hp => by cases List.mem_singleton.mp hp; exact (hw _ (List.mem_of_getElem? (i := 23) rfl))
  refine Run.cast (k_pc0_ef m b x) ?_
  refine s_gets C P (idx := 44) (by decide +kernel) (hw _ (List.mem_of_getElem? (i := 89) rfl)) SA (pc' := 3) rfl (fun T1 P1 => ?_)
  refine b_ifY C P1 (cd := .ne) (o := 25) (by decide +kernel) (pc' := 28) (by decide) (by decide : ¬ (1 : Int32) = 0) ?_
  refine blk C P1 [.iload_n 1, .iconst 1, .ishl, .istore_n 1, .aload_n 0, .iload_n 1, .iinc 1 1, .iload_n 2] (by decide +kernel) (pc' := 38) (L' := [.val (.ref b), .val (.int (1 : Int32)), .val (.int x)]) (S' := [.int x, .int (0 : Int32), .ref b]) rfl ?_
  refine s_gets C P1 (idx := 59) (by decide +kernel) (hw _ (List.mem_of_getElem? (i := 90) rfl)) SH (pc' := 41) rfl (fun T2 P2 => ?_)
  refine blk C P2 [.ishr, .i2b] (by decide +kernel) (pc' := 43) (L' := [.val (.ref b), .val (.int (1 : Int32)), .val (.int x)]) (S' := [.int ((x >>> ((0 : Int32) &&& 31)).toInt8.toInt32), .int (0 : Int32), .ref b]) rfl ?_
  refine s_stB C P2 hE 0 (by decide +kernel) B rfl (by first | omega | (simp only [List.length_set]; omega)) (b8_idem _) (pc' := 44) rfl (fun T3 h3 P3 K3 V3 => ?_)
  refine blk C P3 [.aload_n 0, .iload_n 1, .iload_n 2] (by decide +kernel) (pc' := 47) (L' := [.val (.ref b), .val (.int (1 : Int32)), .val (.int x)]) (S' := [.int x, .int (1 : Int32), .ref b]) rfl ?_
  refine s_gets C P3 (idx := 63) (by decide +kernel) (hw _ (List.mem_of_getElem? (i := 91) rfl)) SL (pc' := 50) rfl (fun T4 P4 => ?_)
  refine blk C P4 [.ishr, .i2b] (by decide +kernel) (pc' := 52) (L' := [.val (.ref b), .val (.int (1 : Int32)), .val (.int x)]) (S' := [.int ((x >>> ((8 : Int32) &&& 31)).toInt8.toInt32), .int (1 : Int32), .ref b]) rfl ?_
  refine s_stB C P4 hE 1 (by decide +kernel) V3 rfl (by first | omega | (simp only [List.length_set]; omega)) (b8_idem _) (pc' := 53) rfl (fun T5 h5 P5 K5 V5 => ?_)
  exact r_void C P5 (by decide +kernel) (le_ _ _ rfl) (le_ _ _ rfl) ⟨rfl, ⟨(keepT K3 K5), V5⟩⟩
theorem k_gc1_ef (m : MethodId) (b : Addr) (x : Int32) : entryFrame m #[.ref b, .int (1 : Int32)] 2 = fr m 0 [.val (.ref b), .val (.int (1 : Int32))] [] := by first | (simp [entryFrame, mkF, argsToLocals, Value.category]; done) | rfl
set_option maxRecDepth 65536 in
set_option maxHeartbeats 4000000 in
theorem k_gc1 (l : Launch) {Z : State} {a0 : Array Value} {n0 : Nat} {h : Heap} {z : Int32} {fm : Value} (wd : Wd Z a0 z fm) (b : Addr) (x : Int32) {vs : List Int32} (O : Old Z n0 h) (B : Bys Z n0 h b vs) (e0 : vs[2]? = some (wlo x)) (e1 : vs[3]? = some (whi x)) (hx : c16 x = x) :
    Con l Z consts_1 n0 [] (⟨"java/lang/StringUTF16", "getChar", "([BI)C"⟩ : MethodName) jdk_52_method_5_code 2 (some .char) ({ frames := 0, cells := 0, slots := 0, locals := 0 } : Room) #[.ref b, .int (1 : Int32)] h (Ret1 fun v h' => v = .int x ∧ h = h') := by
  obtain ⟨hw, hEL, Sz, hz, SA, SH, SL, SF, hfm⟩ := id wd
  refine Con.intro (plainFor_of_name (by first | (simp [plainName, overriddenIn]; done) | decide +kernel)) O hEL ?_
  intro p e s m below meth c T C hs P
  have C : Ctx Z a0 consts_1 p s m meth c "java/lang/StringUTF16" "getChar" jdk_52_method_5_code 2 (some .char) := C
  refine Run.cast (k_gc1_ef m b x) ?_
  refine s_gets C P (idx := 44) (by decide +kernel) (hw _ (List.mem_of_getElem? (i := 89) rfl)) SA (pc' := 3) rfl (fun T1 P1 => ?_)
  refine b_ifY C P1 (cd := .ne) (o := 25) (by decide +kernel) (pc' := 28) (by decide) (by decide : ¬ (1 : Int32) = 0) ?_
  refine blk C P1 [.iload_n 1, .iconst 1, .ishl, .istore_n 1, .aload_n 0, .iload_n 1, .iinc 1 1] (by decide +kernel) (pc' := 37) (L' := [.val (.ref b), .val (.int (3 : Int32))]) (S' := [.int (2 : Int32), .ref b]) rfl ?_
  refine s_ldB C P1 2 (x := (wlo x)) (by decide +kernel) B rfl e0 (pc' := 38) rfl ?_
  refine blk C P1 [.sipush 255, .iand] (by decide +kernel) (pc' := 42) (L' := [.val (.ref b), .val (.int (3 : Int32))]) (S' := [.int ((wlo x) &&& (255 : Int32))]) rfl ?_
  refine s_gets C P1 (idx := 59) (by decide +kernel) (hw _ (List.mem_of_getElem? (i := 90) rfl)) SH (pc' := 45) rfl (fun T2 P2 => ?_)
  refine blk C P2 [.ishl, .aload_n 0, .iload_n 1] (by decide +kernel) (pc' := 48) (L' := [.val (.ref b), .val (.int (3 : Int32))]) (S' := [.int (3 : Int32), .ref b, .int (((wlo x) &&& (255 : Int32)) <<< ((0 : Int32) &&& 31))]) rfl ?_
  refine s_ldB C P2 3 (x := (whi x)) (by decide +kernel) B rfl e1 (pc' := 49) rfl ?_
  refine blk C P2 [.sipush 255, .iand] (by decide +kernel) (pc' := 53) (L' := [.val (.ref b), .val (.int (3 : Int32))]) (S' := [.int ((whi x) &&& (255 : Int32)), .int (((wlo x) &&& (255 : Int32)) <<< ((0 : Int32) &&& 31))]) rfl ?_
  refine s_gets C P2 (idx := 63) (by decide +kernel) (hw _ (List.mem_of_getElem? (i := 91) rfl)) SL (pc' := 56) rfl (fun T3 P3 => ?_)
  refine blk C P3 [.ishl, .ior, .i2c] (by decide +kernel) (pc' := 59) (L' := [.val (.ref b), .val (.int (3 : Int32))]) (S' := [.int (c16 ((((wlo x) &&& (255 : Int32)) <<< ((0 : Int32) &&& 31)) ||| (((whi x) &&& (255 : Int32)) <<< ((8 : Int32) &&& 31))))]) rfl ?_
  exact r_int C P3 (ty := .char) (by simp) (c16_nar _) (by decide +kernel) (le_ _ _ rfl) (le_ _ _ rfl) ⟨_, rfl, ⟨congrArg Value.int (pair_w hx), rfl⟩⟩
theorem k_pc1_ef (m : MethodId) (b : Addr) (x : Int32) : entryFrame m #[.ref b, .int (1 : Int32), .int x] 3 = fr m 0 [.val (.ref b), .val (.int (1 : Int32)), .val (.int x)] [] := by first | (simp [entryFrame, mkF, argsToLocals, Value.category]; done) | rfl
set_option maxRecDepth 65536 in
set_option maxHeartbeats 4000000 in
theorem k_pc1 (l : Launch) {Z : State} {a0 : Array Value} {n0 : Nat} {h : Heap} {z : Int32} {fm : Value} (wd : Wd Z a0 z fm) (b : Addr) (x : Int32) {vs : List Int32} (O : Old Z n0 h) (B : Bys Z n0 h b vs) (hi : 3 < vs.length) :
    Con l Z consts_1 n0 [] (⟨"java/lang/StringUTF16", "putChar", "([BII)V"⟩ : MethodName) jdk_52_method_4_code 3 none ({ frames := 0, cells := 0, slots := 0, locals := 0 } : Room) #[.ref b, .int (1 : Int32), .int x] h (Ret0 fun h' => Keep h h' [b] ∧ Bys Z n0 h' b ((vs.set 2 (wlo x)).set 3 (whi x))) := by
  obtain ⟨hw, hEL, Sz, hz, SA, SH, SL, SF, hfm⟩ := id wd
  refine Con.intro (plainFor_of_name (by first | (simp [plainName, overriddenIn]; done) | decide +kernel)) O hEL ?_
  intro p e s m below meth c T C hs P
  have C : Ctx Z a0 consts_1 p s m meth c "java/lang/StringUTF16" "putChar" jdk_52_method_4_code 3 none := C
  have hE : ∀ p ∈ consts_1, (Jvm.Cond.stringLink p.1 p.2 "").before a0 Z = true := fun p hp => by cases List.mem_singleton.mp hp; exact (hw _ (List.mem_of_getElem? (i := 23) rfl))
  refine Run.cast (k_pc1_ef m b x) ?_
  refine s_gets C P (idx := 44) (by decide +kernel) (hw _ (List.mem_of_getElem? (i := 89) rfl)) SA (pc' := 3) rfl (fun T1 P1 => ?_)
  refine b_ifY C P1 (cd := .ne) (o := 25) (by decide +kernel) (pc' := 28) (by decide) (by decide : ¬ (1 : Int32) = 0) ?_
  refine blk C P1 [.iload_n 1, .iconst 1, .ishl, .istore_n 1, .aload_n 0, .iload_n 1, .iinc 1 1, .iload_n 2] (by decide +kernel) (pc' := 38) (L' := [.val (.ref b), .val (.int (3 : Int32)), .val (.int x)]) (S' := [.int x, .int (2 : Int32), .ref b]) rfl ?_
  refine s_gets C P1 (idx := 59) (by decide +kernel) (hw _ (List.mem_of_getElem? (i := 90) rfl)) SH (pc' := 41) rfl (fun T2 P2 => ?_)
  refine blk C P2 [.ishr, .i2b] (by decide +kernel) (pc' := 43) (L' := [.val (.ref b), .val (.int (3 : Int32)), .val (.int x)]) (S' := [.int ((x >>> ((0 : Int32) &&& 31)).toInt8.toInt32), .int (2 : Int32), .ref b]) rfl ?_
  refine s_stB C P2 hE 2 (by decide +kernel) B rfl (by first | omega | (simp only [List.length_set]; omega)) (b8_idem _) (pc' := 44) rfl (fun T3 h3 P3 K3 V3 => ?_)
  refine blk C P3 [.aload_n 0, .iload_n 1, .iload_n 2] (by decide +kernel) (pc' := 47) (L' := [.val (.ref b), .val (.int (3 : Int32)), .val (.int x)]) (S' := [.int x, .int (3 : Int32), .ref b]) rfl ?_
  refine s_gets C P3 (idx := 63) (by decide +kernel) (hw _ (List.mem_of_getElem? (i := 91) rfl)) SL (pc' := 50) rfl (fun T4 P4 => ?_)
  refine blk C P4 [.ishr, .i2b] (by decide +kernel) (pc' := 52) (L' := [.val (.ref b), .val (.int (3 : Int32)), .val (.int x)]) (S' := [.int ((x >>> ((8 : Int32) &&& 31)).toInt8.toInt32), .int (3 : Int32), .ref b]) rfl ?_
  refine s_stB C P4 hE 3 (by decide +kernel) V3 rfl (by first | omega | (simp only [List.length_set]; omega)) (b8_idem _) (pc' := 53) rfl (fun T5 h5 P5 K5 V5 => ?_)
  exact r_void C P5 (by decide +kernel) (le_ _ _ rfl) (le_ _ _ rfl) ⟨rfl, ⟨(keepT K3 K5), V5⟩⟩
theorem k_gc2_ef (m : MethodId) (b : Addr) (x : Int32) : entryFrame m #[.ref b, .int (2 : Int32)] 2 = fr m 0 [.val (.ref b), .val (.int (2 : Int32))] [] := by first | (simp [entryFrame, mkF, argsToLocals, Value.category]; done) | rfl
set_option maxRecDepth 65536 in
set_option maxHeartbeats 4000000 in
theorem k_gc2 (l : Launch) {Z : State} {a0 : Array Value} {n0 : Nat} {h : Heap} {z : Int32} {fm : Value} (wd : Wd Z a0 z fm) (b : Addr) (x : Int32) {vs : List Int32} (O : Old Z n0 h) (B : Bys Z n0 h b vs) (e0 : vs[4]? = some (wlo x)) (e1 : vs[5]? = some (whi x)) (hx : c16 x = x) :
    Con l Z consts_1 n0 [] (⟨"java/lang/StringUTF16", "getChar", "([BI)C"⟩ : MethodName) jdk_52_method_5_code 2 (some .char) ({ frames := 0, cells := 0, slots := 0, locals := 0 } : Room) #[.ref b, .int (2 : Int32)] h (Ret1 fun v h' => v = .int x ∧ h = h') := by
  obtain ⟨hw, hEL, Sz, hz, SA, SH, SL, SF, hfm⟩ := id wd
  refine Con.intro (plainFor_of_name (by first | (simp [plainName, overriddenIn]; done) | decide +kernel)) O hEL ?_
  intro p e s m below meth c T C hs P
  have C : Ctx Z a0 consts_1 p s m meth c "java/lang/StringUTF16" "getChar" jdk_52_method_5_code 2 (some .char) := C
  refine Run.cast (k_gc2_ef m b x) ?_
  refine s_gets C P (idx := 44) (by decide +kernel) (hw _ (List.mem_of_getElem? (i := 89) rfl)) SA (pc' := 3) rfl (fun T1 P1 => ?_)
  refine b_ifY C P1 (cd := .ne) (o := 25) (by decide +kernel) (pc' := 28) (by decide) (by decide : ¬ (1 : Int32) = 0) ?_
  refine blk C P1 [.iload_n 1, .iconst 1, .ishl, .istore_n 1, .aload_n 0, .iload_n 1, .iinc 1 1] (by decide +kernel) (pc' := 37) (L' := [.val (.ref b), .val (.int (5 : Int32))]) (S' := [.int (4 : Int32), .ref b]) rfl ?_
  refine s_ldB C P1 4 (x := (wlo x)) (by decide +kernel) B rfl e0 (pc' := 38) rfl ?_
  refine blk C P1 [.sipush 255, .iand] (by decide +kernel) (pc' := 42) (L' := [.val (.ref b), .val (.int (5 : Int32))]) (S' := [.int ((wlo x) &&& (255 : Int32))]) rfl ?_
  refine s_gets C P1 (idx := 59) (by decide +kernel) (hw _ (List.mem_of_getElem? (i := 90) rfl)) SH (pc' := 45) rfl (fun T2 P2 => ?_)
  refine blk C P2 [.ishl, .aload_n 0, .iload_n 1] (by decide +kernel) (pc' := 48) (L' := [.val (.ref b), .val (.int (5 : Int32))]) (S' := [.int (5 : Int32), .ref b, .int (((wlo x) &&& (255 : Int32)) <<< ((0 : Int32) &&& 31))]) rfl ?_
  refine s_ldB C P2 5 (x := (whi x)) (by decide +kernel) B rfl e1 (pc' := 49) rfl ?_
  refine blk C P2 [.sipush 255, .iand] (by decide +kernel) (pc' := 53) (L' := [.val (.ref b), .val (.int (5 : Int32))]) (S' := [.int ((whi x) &&& (255 : Int32)), .int (((wlo x) &&& (255 : Int32)) <<< ((0 : Int32) &&& 31))]) rfl ?_
  refine s_gets C P2 (idx := 63) (by decide +kernel) (hw _ (List.mem_of_getElem? (i := 91) rfl)) SL (pc' := 56) rfl (fun T3 P3 => ?_)
  refine blk C P3 [.ishl, .ior, .i2c] (by decide +kernel) (pc' := 59) (L' := [.val (.ref b), .val (.int (5 : Int32))]) (S' := [.int (c16 ((((wlo x) &&& (255 : Int32)) <<< ((0 : Int32) &&& 31)) ||| (((whi x) &&& (255 : Int32)) <<< ((8 : Int32) &&& 31))))]) rfl ?_
  exact r_int C P3 (ty := .char) (by simp) (c16_nar _) (by decide +kernel) (le_ _ _ rfl) (le_ _ _ rfl) ⟨_, rfl, ⟨congrArg Value.int (pair_w hx), rfl⟩⟩
theorem k_pc2_ef (m : MethodId) (b : Addr) (x : Int32) : entryFrame m #[.ref b, .int (2 : Int32), .int x] 3 = fr m 0 [.val (.ref b), .val (.int (2 : Int32)), .val (.int x)] [] := by first | (simp [entryFrame, mkF, argsToLocals, Value.category]; done) | rfl
set_option maxRecDepth 65536 in
set_option maxHeartbeats 4000000 in
theorem k_pc2 (l : Launch) {Z : State} {a0 : Array Value} {n0 : Nat} {h : Heap} {z : Int32} {fm : Value} (wd : Wd Z a0 z fm) (b : Addr) (x : Int32) {vs : List Int32} (O : Old Z n0 h) (B : Bys Z n0 h b vs) (hi : 5 < vs.length) :
    Con l Z consts_1 n0 [] (⟨"java/lang/StringUTF16", "putChar", "([BII)V"⟩ : MethodName) jdk_52_method_4_code 3 none ({ frames := 0, cells := 0, slots := 0, locals := 0 } : Room) #[.ref b, .int (2 : Int32), .int x] h (Ret0 fun h' => Keep h h' [b] ∧ Bys Z n0 h' b ((vs.set 4 (wlo x)).set 5 (whi x))) := by
  obtain ⟨hw, hEL, Sz, hz, SA, SH, SL, SF, hfm⟩ := id wd
  refine Con.intro (plainFor_of_name (by first | (simp [plainName, overriddenIn]; done) | decide +kernel)) O hEL ?_
  intro p e s m below meth c T C hs P
  have C : Ctx Z a0 consts_1 p s m meth c "java/lang/StringUTF16" "putChar" jdk_52_method_4_code 3 none := C
  have hE : ∀ p ∈ consts_1, (Jvm.Cond.stringLink p.1 p.2 "").before a0 Z = true := fun p hp => by cases List.mem_singleton.mp hp; exact (hw _ (List.mem_of_getElem? (i := 23) rfl))
  refine Run.cast (k_pc2_ef m b x) ?_
  refine s_gets C P (idx := 44) (by decide +kernel) (hw _ (List.mem_of_getElem? (i := 89) rfl)) SA (pc' := 3) rfl (fun T1 P1 => ?_)
  refine b_ifY C P1 (cd := .ne) (o := 25) (by decide +kernel) (pc' := 28) (by decide) (by decide : ¬ (1 : Int32) = 0) ?_
  refine blk C P1 [.iload_n 1, .iconst 1, .ishl, .istore_n 1, .aload_n 0, .iload_n 1, .iinc 1 1, .iload_n 2] (by decide +kernel) (pc' := 38) (L' := [.val (.ref b), .val (.int (5 : Int32)), .val (.int x)]) (S' := [.int x, .int (4 : Int32), .ref b]) rfl ?_
  refine s_gets C P1 (idx := 59) (by decide +kernel) (hw _ (List.mem_of_getElem? (i := 90) rfl)) SH (pc' := 41) rfl (fun T2 P2 => ?_)
  refine blk C P2 [.ishr, .i2b] (by decide +kernel) (pc' := 43) (L' := [.val (.ref b), .val (.int (5 : Int32)), .val (.int x)]) (S' := [.int ((x >>> ((0 : Int32) &&& 31)).toInt8.toInt32), .int (4 : Int32), .ref b]) rfl ?_
  refine s_stB C P2 hE 4 (by decide +kernel) B rfl (by first | omega | (simp only [List.length_set]; omega)) (b8_idem _) (pc' := 44) rfl (fun T3 h3 P3 K3 V3 => ?_)
  refine blk C P3 [.aload_n 0, .iload_n 1, .iload_n 2] (by decide +kernel) (pc' := 47) (L' := [.val (.ref b), .val (.int (5 : Int32)), .val (.int x)]) (S' := [.int x, .int (5 : Int32), .ref b]) rfl ?_
  refine s_gets C P3 (idx := 63) (by decide +kernel) (hw _ (List.mem_of_getElem? (i := 91) rfl)) SL (pc' := 50) rfl (fun T4 P4 => ?_)
  refine blk C P4 [.ishr, .i2b] (by decide +kernel) (pc' := 52) (L' := [.val (.ref b), .val (.int (5 : Int32)), .val (.int x)]) (S' := [.int ((x >>> ((8 : Int32) &&& 31)).toInt8.toInt32), .int (5 : Int32), .ref b]) rfl ?_
  refine s_stB C P4 hE 5 (by decide +kernel) V3 rfl (by first | omega | (simp only [List.length_set]; omega)) (b8_idem _) (pc' := 53) rfl (fun T5 h5 P5 K5 V5 => ?_)
  exact r_void C P5 (by decide +kernel) (le_ _ _ rfl) (le_ _ _ rfl) ⟨rfl, ⟨(keepT K3 K5), V5⟩⟩
theorem k_gc3_ef (m : MethodId) (b : Addr) (x : Int32) : entryFrame m #[.ref b, .int (3 : Int32)] 2 = fr m 0 [.val (.ref b), .val (.int (3 : Int32))] [] := by first | (simp [entryFrame, mkF, argsToLocals, Value.category]; done) | rfl
set_option maxRecDepth 65536 in
set_option maxHeartbeats 4000000 in
theorem k_gc3 (l : Launch) {Z : State} {a0 : Array Value} {n0 : Nat} {h : Heap} {z : Int32} {fm : Value} (wd : Wd Z a0 z fm) (b : Addr) (x : Int32) {vs : List Int32} (O : Old Z n0 h) (B : Bys Z n0 h b vs) (e0 : vs[6]? = some (wlo x)) (e1 : vs[7]? = some (whi x)) (hx : c16 x = x) :
    Con l Z consts_1 n0 [] (⟨"java/lang/StringUTF16", "getChar", "([BI)C"⟩ : MethodName) jdk_52_method_5_code 2 (some .char) ({ frames := 0, cells := 0, slots := 0, locals := 0 } : Room) #[.ref b, .int (3 : Int32)] h (Ret1 fun v h' => v = .int x ∧ h = h') := by
  obtain ⟨hw, hEL, Sz, hz, SA, SH, SL, SF, hfm⟩ := id wd
  refine Con.intro (plainFor_of_name (by first | (simp [plainName, overriddenIn]; done) | decide +kernel)) O hEL ?_
  intro p e s m below meth c T C hs P
  have C : Ctx Z a0 consts_1 p s m meth c "java/lang/StringUTF16" "getChar" jdk_52_method_5_code 2 (some .char) := C
  refine Run.cast (k_gc3_ef m b x) ?_
  refine s_gets C P (idx := 44) (by decide +kernel) (hw _ (List.mem_of_getElem? (i := 89) rfl)) SA (pc' := 3) rfl (fun T1 P1 => ?_)
  refine b_ifY C P1 (cd := .ne) (o := 25) (by decide +kernel) (pc' := 28) (by decide) (by decide : ¬ (1 : Int32) = 0) ?_
  refine blk C P1 [.iload_n 1, .iconst 1, .ishl, .istore_n 1, .aload_n 0, .iload_n 1, .iinc 1 1] (by decide +kernel) (pc' := 37) (L' := [.val (.ref b), .val (.int (7 : Int32))]) (S' := [.int (6 : Int32), .ref b]) rfl ?_
  refine s_ldB C P1 6 (x := (wlo x)) (by decide +kernel) B rfl e0 (pc' := 38) rfl ?_
  refine blk C P1 [.sipush 255, .iand] (by decide +kernel) (pc' := 42) (L' := [.val (.ref b), .val (.int (7 : Int32))]) (S' := [.int ((wlo x) &&& (255 : Int32))]) rfl ?_
  refine s_gets C P1 (idx := 59) (by decide +kernel) (hw _ (List.mem_of_getElem? (i := 90) rfl)) SH (pc' := 45) rfl (fun T2 P2 => ?_)
  refine blk C P2 [.ishl, .aload_n 0, .iload_n 1] (by decide +kernel) (pc' := 48) (L' := [.val (.ref b), .val (.int (7 : Int32))]) (S' := [.int (7 : Int32), .ref b, .int (((wlo x) &&& (255 : Int32)) <<< ((0 : Int32) &&& 31))]) rfl ?_
  refine s_ldB C P2 7 (x := (whi x)) (by decide +kernel) B rfl e1 (pc' := 49) rfl ?_
  refine blk C P2 [.sipush 255, .iand] (by decide +kernel) (pc' := 53) (L' := [.val (.ref b), .val (.int (7 : Int32))]) (S' := [.int ((whi x) &&& (255 : Int32)), .int (((wlo x) &&& (255 : Int32)) <<< ((0 : Int32) &&& 31))]) rfl ?_
  refine s_gets C P2 (idx := 63) (by decide +kernel) (hw _ (List.mem_of_getElem? (i := 91) rfl)) SL (pc' := 56) rfl (fun T3 P3 => ?_)
  refine blk C P3 [.ishl, .ior, .i2c] (by decide +kernel) (pc' := 59) (L' := [.val (.ref b), .val (.int (7 : Int32))]) (S' := [.int (c16 ((((wlo x) &&& (255 : Int32)) <<< ((0 : Int32) &&& 31)) ||| (((whi x) &&& (255 : Int32)) <<< ((8 : Int32) &&& 31))))]) rfl ?_
  exact r_int C P3 (ty := .char) (by simp) (c16_nar _) (by decide +kernel) (le_ _ _ rfl) (le_ _ _ rfl) ⟨_, rfl, ⟨congrArg Value.int (pair_w hx), rfl⟩⟩
theorem k_pc3_ef (m : MethodId) (b : Addr) (x : Int32) : entryFrame m #[.ref b, .int (3 : Int32), .int x] 3 = fr m 0 [.val (.ref b), .val (.int (3 : Int32)), .val (.int x)] [] := by first | (simp [entryFrame, mkF, argsToLocals, Value.category]; done) | rfl
set_option maxRecDepth 65536 in
set_option maxHeartbeats 4000000 in
theorem k_pc3 (l : Launch) {Z : State} {a0 : Array Value} {n0 : Nat} {h : Heap} {z : Int32} {fm : Value} (wd : Wd Z a0 z fm) (b : Addr) (x : Int32) {vs : List Int32} (O : Old Z n0 h) (B : Bys Z n0 h b vs) (hi : 7 < vs.length) :
    Con l Z consts_1 n0 [] (⟨"java/lang/StringUTF16", "putChar", "([BII)V"⟩ : MethodName) jdk_52_method_4_code 3 none ({ frames := 0, cells := 0, slots := 0, locals := 0 } : Room) #[.ref b, .int (3 : Int32), .int x] h (Ret0 fun h' => Keep h h' [b] ∧ Bys Z n0 h' b ((vs.set 6 (wlo x)).set 7 (whi x))) := by
  obtain ⟨hw, hEL, Sz, hz, SA, SH, SL, SF, hfm⟩ := id wd
  refine Con.intro (plainFor_of_name (by first | (simp [plainName, overriddenIn]; done) | decide +kernel)) O hEL ?_
  intro p e s m below meth c T C hs P
  have C : Ctx Z a0 consts_1 p s m meth c "java/lang/StringUTF16" "putChar" jdk_52_method_4_code 3 none := C
  have hE : ∀ p ∈ consts_1, (Jvm.Cond.stringLink p.1 p.2 "").before a0 Z = true := fun p hp => by cases List.mem_singleton.mp hp; exact (hw _ (List.mem_of_getElem? (i := 23) rfl))
  refine Run.cast (k_pc3_ef m b x) ?_
  refine s_gets C P (idx := 44) (by decide +kernel) (hw _ (List.mem_of_getElem? (i := 89) rfl)) SA (pc' := 3) rfl (fun T1 P1 => ?_)
  refine b_ifY C P1 (cd := .ne) (o := 25) (by decide +kernel) (pc' := 28) (by decide) (by decide : ¬ (1 : Int32) = 0) ?_
  refine blk C P1 [.iload_n 1, .iconst 1, .ishl, .istore_n 1, .aload_n 0, .iload_n 1, .iinc 1 1, .iload_n 2] (by decide +kernel) (pc' := 38) (L' := [.val (.ref b), .val (.int (7 : Int32)), .val (.int x)]) (S' := [.int x, .int (6 : Int32), .ref b]) rfl ?_
  refine s_gets C P1 (idx := 59) (by decide +kernel) (hw _ (List.mem_of_getElem? (i := 90) rfl)) SH (pc' := 41) rfl (fun T2 P2 => ?_)
  refine blk C P2 [.ishr, .i2b] (by decide +kernel) (pc' := 43) (L' := [.val (.ref b), .val (.int (7 : Int32)), .val (.int x)]) (S' := [.int ((x >>> ((0 : Int32) &&& 31)).toInt8.toInt32), .int (6 : Int32), .ref b]) rfl ?_
  refine s_stB C P2 hE 6 (by decide +kernel) B rfl (by first | omega | (simp only [List.length_set]; omega)) (b8_idem _) (pc' := 44) rfl (fun T3 h3 P3 K3 V3 => ?_)
  refine blk C P3 [.aload_n 0, .iload_n 1, .iload_n 2] (by decide +kernel) (pc' := 47) (L' := [.val (.ref b), .val (.int (7 : Int32)), .val (.int x)]) (S' := [.int x, .int (7 : Int32), .ref b]) rfl ?_
  refine s_gets C P3 (idx := 63) (by decide +kernel) (hw _ (List.mem_of_getElem? (i := 91) rfl)) SL (pc' := 50) rfl (fun T4 P4 => ?_)
  refine blk C P4 [.ishr, .i2b] (by decide +kernel) (pc' := 52) (L' := [.val (.ref b), .val (.int (7 : Int32)), .val (.int x)]) (S' := [.int ((x >>> ((8 : Int32) &&& 31)).toInt8.toInt32), .int (7 : Int32), .ref b]) rfl ?_
  refine s_stB C P4 hE 7 (by decide +kernel) V3 rfl (by first | omega | (simp only [List.length_set]; omega)) (b8_idem _) (pc' := 53) rfl (fun T5 h5 P5 K5 V5 => ?_)
  exact r_void C P5 (by decide +kernel) (le_ _ _ rfl) (le_ _ _ rfl) ⟨rfl, ⟨(keepT K3 K5), V5⟩⟩
theorem k_mx_ef (m : MethodId)  : entryFrame m #[.int (0 : Int32), .int (0 : Int32)] 2 = fr m 0 [.val (.int (0 : Int32)), .val (.int (0 : Int32))] [] := by first | (simp [entryFrame, mkF, argsToLocals, Value.category]; done) | rfl
set_option maxRecDepth 65536 in
set_option maxHeartbeats 4000000 in
theorem k_mx (l : Launch) {Z : State} {a0 : Array Value} {n0 : Nat} {h : Heap} {z : Int32} {fm : Value} (wd : Wd Z a0 z fm)   (O : Old Z n0 h)  :
    Con l Z consts_1 n0 [] (⟨"java/lang/Math", "max", "(II)I"⟩ : MethodName) jdk_29_method_65_code 2 (some .int) ({ frames := 0, cells := 0, slots := 0, locals := 0 } : Room) #[.int (0 : Int32), .int (0 : Int32)] h (Ret1 fun v h' => v = .int 0 ∧ h = h') := by
  obtain ⟨hw, hEL, Sz, hz, SA, SH, SL, SF, hfm⟩ := id wd
  refine Con.intro (by decide +kernel) O hEL ?_
  intro p e s m below meth c T C hs P
  have C : Ctx Z a0 consts_1 p s m meth c "java/lang/Math" "max" jdk_29_method_65_code 2 (some .int) := C
  refine Run.cast (k_mx_ef m) ?_
  refine blk C P [.iload_n 0, .iload_n 1] (by decide +kernel) (pc' := 2) (L' := [.val (.int (0 : Int32)), .val (.int (0 : Int32))]) (S' := [.int (0 : Int32), .int (0 : Int32)]) rfl ?_
  refine b_cmN C P (cd := .lt) (o := 7) (by decide +kernel) (pc' := 5) rfl (by decide : ¬ (0 : Int32) < (0 : Int32)) ?_
  refine blk C P [.iload_n 0] (by decide +kernel) (pc' := 6) (L' := [.val (.int (0 : Int32)), .val (.int (0 : Int32))]) (S' := [.int (0 : Int32)]) rfl ?_
  refine b_goto C P (o := 4) (by decide +kernel) (pc' := 10) (by decide) ?_
  exact r_int C P (ty := .int) (by simp) rfl (by decide +kernel) (le_ _ _ rfl) (le_ _ _ rfl) ⟨_, rfl, ⟨rfl, rfl⟩⟩
theorem k_ce_ef (m : MethodId)  : entryFrame m #[.int (65533 : Int32)] 1 = fr m 0 [.val (.int (65533 : Int32))] [] := by first | (simp [entryFrame, mkF, argsToLocals, Value.category]; done) | rfl
set_option maxRecDepth 65536 in
set_option maxHeartbeats 4000000 in
theorem k_ce (l : Launch) {Z : State} {a0 : Array Value} {n0 : Nat} {h : Heap} {z : Int32} {fm : Value} (wd : Wd Z a0 z fm)   (O : Old Z n0 h)  :
    Con l Z consts_1 n0 [] (⟨"java/lang/StringLatin1", "canEncode", "(I)Z"⟩ : MethodName) jdk_43_method_4_code 1 (some .boolean) ({ frames := 0, cells := 0, slots := 0, locals := 0 } : Room) #[.int (65533 : Int32)] h (Ret1 fun v h' => v = .int 0 ∧ h = h') := by
  obtain ⟨hw, hEL, Sz, hz, SA, SH, SL, SF, hfm⟩ := id wd
  refine Con.intro (plainFor_of_name (by first | (simp [plainName, overriddenIn]; done) | decide +kernel)) O hEL ?_
  intro p e s m below meth c T C hs P
  have C : Ctx Z a0 consts_1 p s m meth c "java/lang/StringLatin1" "canEncode" jdk_43_method_4_code 1 (some .boolean) := C
  refine Run.cast (k_ce_ef m) ?_
  refine blk C P [.iload_n 0] (by decide +kernel) (pc' := 1) (L' := [.val (.int (65533 : Int32))]) (S' := [.int (65533 : Int32)]) rfl ?_
  refine b_ifN C P (cd := .lt) (o := 14) (by decide +kernel) (pc' := 4) rfl (by decide : ¬ (65533 : Int32) < 0) ?_
  refine blk C P [.iload_n 0, .sipush 255] (by decide +kernel) (pc' := 8) (L' := [.val (.int (65533 : Int32))]) (S' := [.int (255 : Int32), .int (65533 : Int32)]) rfl ?_
  refine b_cmY C P (cd := .gt) (o := 7) (by decide +kernel) (pc' := 15) (by decide) (by decide : (255 : Int32) < (65533 : Int32)) ?_
  refine blk C P [.iconst 0] (by decide +kernel) (pc' := 16) (L' := [.val (.int (65533 : Int32))]) (S' := [.int (0 : Int32)]) rfl ?_
  exact r_int C P (ty := .boolean) (by simp) rfl (by decide +kernel) (le_ _ _ rfl) (le_ _ _ rfl) ⟨_, rfl, ⟨rfl, rfl⟩⟩
theorem k_li_ef (m : MethodId) (t : Addr) (w : Int32) : entryFrame m #[.ref t, .int (65533 : Int32), .int (0 : Int32), .int w] 4 = fr m 0 [.val (.ref t), .val (.int (65533 : Int32)), .val (.int (0 : Int32)), .val (.int w)] [] := by first | (simp [entryFrame, mkF, argsToLocals, Value.category]; done) | rfl
set_option maxRecDepth 65536 in
set_option maxHeartbeats 4000000 in
theorem k_li (l : Launch) {Z : State} {a0 : Array Value} {n0 : Nat} {h : Heap} {z : Int32} {fm : Value} (wd : Wd Z a0 z fm) (t : Addr) (w : Int32)  (O : Old Z n0 h)  :
    Con l Z consts_1 n0 [] (⟨"java/lang/StringLatin1", "indexOf", "([BIII)I"⟩ : MethodName) jdk_43_method_22_code 4 (some .int) ({ frames := 1, cells := 0, slots := 0, locals := 12 } : Room) #[.ref t, .int (65533 : Int32), .int (0 : Int32), .int w] h (Ret1 fun v h' => v = .int (-1) ∧ h = h') := by
  obtain ⟨hw, hEL, Sz, hz, SA, SH, SL, SF, hfm⟩ := id wd
  refine Con.intro (plainFor_of_name (by first | (simp [plainName, overriddenIn]; done) | decide +kernel)) O hEL ?_
  intro p e s m below meth c T C hs P
  have C : Ctx Z a0 consts_1 p s m meth c "java/lang/StringLatin1" "indexOf" jdk_43_method_22_code 4 (some .int) := C
  refine Run.cast (k_li_ef m t w) ?_
  refine blk C P [.iload_n 1] (by decide +kernel) (pc' := 1) (L' := [.val (.ref t), .val (.int (65533 : Int32)), .val (.int (0 : Int32)), .val (.int w)]) (S' := [.int (65533 : Int32)]) rfl ?_
  refine c_static C P (idx := 88) (y := (⟨"java/lang/StringLatin1", "canEncode", "(I)Z"⟩ : MethodName)) (ybytes := jdk_43_method_4_code) (ymax := 1) (yret := (some .boolean)) (yrm := ({ frames := 0, cells := 0, slots := 0, locals := 0 } : Room)) (by decide +kernel) (hw _ (List.mem_of_getElem? (i := 66) rfl)) (hw _ (List.mem_of_getElem? (i := 67) rfl)) (hw _ (List.mem_of_getElem? (i := 64) rfl)) (hw _ (List.mem_of_getElem? (i := 68) rfl)) (by decide) [.int (65533 : Int32)] [] (k_ce l wd  P.old ) (le_ _ _ rfl) (W := 0) (le_ _ _ rfl) (by decide +kernel : parseMethodDescriptor "(I)Z" = some ⟨[.int], some .boolean⟩) rfl rfl rfl (le_ _ _ rfl) (le_ _ _ rfl) (le_ _ _ rfl) (pc' := 4) rfl (fun T1 h1 v1 P1 Q1 => ?_)
  replace P1 := P1.more (k' := 0) (n' := 0) (le_ _ _ rfl) (le_ _ _ rfl)
  obtain ⟨rfl, rfl⟩ := Q1
  refine b_ifN C P1 (cd := .ne) (o := 5) (by decide +kernel) (pc' := 7) rfl (by decide : (0 : Int32) = 0) ?_
  refine blk C P1 [.iconst (-1)] (by decide +kernel) (pc' := 8) (L' := [.val (.ref t), .val (.int (65533 : Int32)), .val (.int (0 : Int32)), .val (.int w)]) (S' := [.int (-1 : Int32)]) rfl ?_
  exact r_int C P1 (ty := .int) (by simp) rfl (by decide +kernel) (le_ _ _ rfl) (le_ _ _ rfl) ⟨_, rfl, ⟨rfl, rfl⟩⟩
theorem k_il0_ef (m : MethodId) (a : Addr) : entryFrame m #[.ref a] 1 = fr m 0 [.val (.ref a)] [] := by first | (simp [entryFrame, mkF, argsToLocals, Value.category]; done) | rfl
set_option maxRecDepth 65536 in
set_option maxHeartbeats 4000000 in
theorem k_il0 (l : Launch) {Z : State} {a0 : Array Value} {n0 : Nat} {h : Heap} {z : Int32} {fm : Value} (wd : Wd Z a0 z fm) (a : Addr)  (O : Old Z n0 h) (G : Fld Z h a sST "coder" "B" (.int 0)) :
    Con l Z consts_1 n0 [] (⟨"java/lang/String", "isLatin1", "()Z"⟩ : MethodName) jdk_42_method_154_code 1 (some .boolean) ({ frames := 0, cells := 0, slots := 0, locals := 0 } : Room) #[.ref a] h (Ret1 fun v h' => v = .int 1 ∧ h = h') := by
  obtain ⟨hw, hEL, Sz, hz, SA, SH, SL, SF, hfm⟩ := id wd
  refine Con.intro (plainFor_of_name (by first | (simp [plainName, overriddenIn]; done) | decide +kernel)) O hEL ?_
  intro p e s m below meth c T C hs P
  have C : Ctx Z a0 consts_1 p s m meth c "java/lang/String" "isLatin1" jdk_42_method_154_code 1 (some .boolean) := C
  refine Run.cast (k_il0_ef m a) ?_
  refine s_gets C P (idx := 38) (by decide +kernel) (hw _ (List.mem_of_getElem? (i := 51) rfl)) Sz (pc' := 3) rfl (fun T1 P1 => ?_)
  refine b_ifN C P1 (cd := .eq) (o := 14) (by decide +kernel) (pc' := 6) rfl hz ?_
  refine blk C P1 [.aload_n 0] (by decide +kernel) (pc' := 7) (L' := [.val (.ref a)]) (S' := [.ref a]) rfl ?_
  refine s_getf C P1 (idx := 15) (by decide +kernel) (hw _ (List.mem_of_getElem? (i := 30) rfl)) G (pc' := 10) rfl (fun T2 P2 => ?_)
  refine b_ifN C P2 (cd := .ne) (o := 7) (by decide +kernel) (pc' := 13) rfl (by decide : (0 : Int32) = 0) ?_
  refine blk C P2 [.iconst 1] (by decide +kernel) (pc' := 14) (L' := [.val (.ref a)]) (S' := [.int (1 : Int32)]) rfl ?_
  refine b_goto C P2 (o := 4) (by decide +kernel) (pc' := 18) (by decide) ?_
  exact r_int C P2 (ty := .boolean) (by simp) rfl (by decide +kernel) (le_ _ _ rfl) (le_ _ _ rfl) ⟨_, rfl, ⟨rfl, rfl⟩⟩
theorem k_co0_ef (m : MethodId) (a : Addr) : entryFrame m #[.ref a] 1 = fr m 0 [.val (.ref a)] [] := by first | (simp [entryFrame, mkF, argsToLocals, Value.category]; done) | rfl
set_option maxRecDepth 65536 in
set_option maxHeartbeats 4000000 in
theorem k_co0 (l : Launch) {Z : State} {a0 : Array Value} {n0 : Nat} {h : Heap} {z : Int32} {fm : Value} (wd : Wd Z a0 z fm) (a : Addr)  (O : Old Z n0 h) (G : Fld Z h a sST "coder" "B" (.int 0)) :
    Con l Z consts_1 n0 [] (⟨"java/lang/String", "coder", "()B"⟩ : MethodName) jdk_42_method_152_code 1 (some .byte) ({ frames := 0, cells := 0, slots := 0, locals := 0 } : Room) #[.ref a] h (Ret1 fun v h' => v = .int 0 ∧ h = h') := by
  obtain ⟨hw, hEL, Sz, hz, SA, SH, SL, SF, hfm⟩ := id wd
  refine Con.intro (plainFor_of_name (by first | (simp [plainName, overriddenIn]; done) | decide +kernel)) O hEL ?_
  intro p e s m below meth c T C hs P
  have C : Ctx Z a0 consts_1 p s m meth c "java/lang/String" "coder" jdk_42_method_152_code 1 (some .byte) := C
  refine Run.cast (k_co0_ef m a) ?_
  refine s_gets C P (idx := 38) (by decide +kernel) (hw _ (List.mem_of_getElem? (i := 51) rfl)) Sz (pc' := 3) rfl (fun T1 P1 => ?_)
  refine b_ifN C P1 (cd := .eq) (o := 10) (by decide +kernel) (pc' := 6) rfl hz ?_
  refine blk C P1 [.aload_n 0] (by decide +kernel) (pc' := 7) (L' := [.val (.ref a)]) (S' := [.ref a]) rfl ?_
  refine s_getf C P1 (idx := 15) (by decide +kernel) (hw _ (List.mem_of_getElem? (i := 30) rfl)) G (pc' := 10) rfl (fun T2 P2 => ?_)
  refine b_goto C P2 (o := 4) (by decide +kernel) (pc' := 14) (by decide) ?_
  exact r_int C P2 (ty := .byte) (by simp) rfl (by decide +kernel) (le_ _ _ rfl) (le_ _ _ rfl) ⟨_, rfl, ⟨rfl, rfl⟩⟩
theorem k_il1_ef (m : MethodId) (a : Addr) : entryFrame m #[.ref a] 1 = fr m 0 [.val (.ref a)] [] := by first | (simp [entryFrame, mkF, argsToLocals, Value.category]; done) | rfl
set_option maxRecDepth 65536 in
set_option maxHeartbeats 4000000 in
theorem k_il1 (l : Launch) {Z : State} {a0 : Array Value} {n0 : Nat} {h : Heap} {z : Int32} {fm : Value} (wd : Wd Z a0 z fm) (a : Addr)  (O : Old Z n0 h) (G : Fld Z h a sST "coder" "B" (.int 1)) :
    Con l Z consts_1 n0 [] (⟨"java/lang/String", "isLatin1", "()Z"⟩ : MethodName) jdk_42_method_154_code 1 (some .boolean) ({ frames := 0, cells := 0, slots := 0, locals := 0 } : Room) #[.ref a] h (Ret1 fun v h' => v = .int 0 ∧ h = h') := by
  obtain ⟨hw, hEL, Sz, hz, SA, SH, SL, SF, hfm⟩ := id wd
  refine Con.intro (plainFor_of_name (by first | (simp [plainName, overriddenIn]; done) | decide +kernel)) O hEL ?_
  intro p e s m below meth c T C hs P
  have C : Ctx Z a0 consts_1 p s m meth c "java/lang/String" "isLatin1" jdk_42_method_154_code 1 (some .boolean) := C
  refine Run.cast (k_il1_ef m a) ?_
  refine s_gets C P (idx := 38) (by decide +kernel) (hw _ (List.mem_of_getElem? (i := 51) rfl)) Sz (pc' := 3) rfl (fun T1 P1 => ?_)
  refine b_ifN C P1 (cd := .eq) (o := 14) (by decide +kernel) (pc' := 6) rfl hz ?_
  refine blk C P1 [.aload_n 0] (by decide +kernel) (pc' := 7) (L' := [.val (.ref a)]) (S' := [.ref a]) rfl ?_
  refine s_getf C P1 (idx := 15) (by decide +kernel) (hw _ (List.mem_of_getElem? (i := 30) rfl)) G (pc' := 10) rfl (fun T2 P2 => ?_)
  refine b_ifY C P2 (cd := .ne) (o := 7) (by decide +kernel) (pc' := 17) (by decide) (by decide : ¬ (1 : Int32) = 0) ?_
  refine blk C P2 [.iconst 0] (by decide +kernel) (pc' := 18) (L' := [.val (.ref a)]) (S' := [.int (0 : Int32)]) rfl ?_
  exact r_int C P2 (ty := .boolean) (by simp) rfl (by decide +kernel) (le_ _ _ rfl) (le_ _ _ rfl) ⟨_, rfl, ⟨rfl, rfl⟩⟩
theorem k_co1_ef (m : MethodId) (a : Addr) : entryFrame m #[.ref a] 1 = fr m 0 [.val (.ref a)] [] := by first | (simp [entryFrame, mkF, argsToLocals, Value.category]; done) | rfl
set_option maxRecDepth 65536 in
set_option maxHeartbeats 4000000 in
theorem k_co1 (l : Launch) {Z : State} {a0 : Array Value} {n0 : Nat} {h : Heap} {z : Int32} {fm : Value} (wd : Wd Z a0 z fm) (a : Addr)  (O : Old Z n0 h) (G : Fld Z h a sST "coder" "B" (.int 1)) :
    Con l Z consts_1 n0 [] (⟨"java/lang/String", "coder", "()B"⟩ : MethodName) jdk_42_method_152_code 1 (some .byte) ({ frames := 0, cells := 0, slots := 0, locals := 0 } : Room) #[.ref a] h (Ret1 fun v h' => v = .int 1 ∧ h = h') := by
  obtain ⟨hw, hEL, Sz, hz, SA, SH, SL, SF, hfm⟩ := id wd
  refine Con.intro (plainFor_of_name (by first | (simp [plainName, overriddenIn]; done) | decide +kernel)) O hEL ?_
  intro p e s m below meth c T C hs P
  have C : Ctx Z a0 consts_1 p s m meth c "java/lang/String" "coder" jdk_42_method_152_code 1 (some .byte) := C
  refine Run.cast (k_co1_ef m a) ?_
  refine s_gets C P (idx := 38) (by decide +kernel) (hw _ (List.mem_of_getElem? (i := 51) rfl)) Sz (pc' := 3) rfl (fun T1 P1 => ?_)
  refine b_ifN C P1 (cd := .eq) (o := 10) (by decide +kernel) (pc' := 6) rfl hz ?_
  refine blk C P1 [.aload_n 0] (by decide +kernel) (pc' := 7) (L' := [.val (.ref a)]) (S' := [.ref a]) rfl ?_
  refine s_getf C P1 (idx := 15) (by decide +kernel) (hw _ (List.mem_of_getElem? (i := 30) rfl)) G (pc' := 10) rfl (fun T2 P2 => ?_)
  refine b_goto C P2 (o := 4) (by decide +kernel) (pc' := 14) (by decide) ?_
  exact r_int C P2 (ty := .byte) (by simp) rfl (by decide +kernel) (le_ _ _ rfl) (le_ _ _ rfl) ⟨_, rfl, ⟨rfl, rfl⟩⟩
theorem k_sl_ef (m : MethodId) (a : Addr) : entryFrame m #[.ref a] 1 = fr m 0 [.val (.ref a)] [] := by first | (simp [entryFrame, mkF, argsToLocals, Value.category]; done) | rfl
set_option maxRecDepth 65536 in
set_option maxHeartbeats 4000000 in
theorem k_sl (l : Launch) {Z : State} {a0 : Array Value} {n0 : Nat} {h : Heap} {z : Int32} {fm : Value} (wd : Wd Z a0 z fm) (a : Addr) {cs : List Int32} (O : Old Z n0 h) (S : Str Z h a cs) :
    Con l Z consts_1 n0 [] (⟨"java/lang/String", "length", "()I"⟩ : MethodName) jdk_42_method_54_code 1 (some .int) ({ frames := 1, cells := 0, slots := 0, locals := 13 } : Room) #[.ref a] h (Ret1 fun v h' => ∃ w, v = .int w ∧ h = h') := by
  obtain ⟨hw, hEL, Sz, hz, SA, SH, SL, SF, hfm⟩ := id wd
  obtain ⟨S1, S2, S3, S4, t, kt, S5, S6⟩ := id S
  refine Con.intro (plainFor_of_name (by first | (simp [plainName, overriddenIn]; done) | decide +kernel)) O hEL ?_
  intro p e s m below meth c T C hs P
  have C : Ctx Z a0 consts_1 p s m meth c "java/lang/String" "length" jdk_42_method_54_code 1 (some .int) := C
  refine Run.cast (k_sl_ef m a) ?_
  refine blk C P [.aload_n 0] (by decide +kernel) (pc' := 1) (L' := [.val (.ref a)]) (S' := [.ref a]) rfl ?_
  refine s_getf C P (idx := 9) (by decide +kernel) (hw _ (List.mem_of_getElem? (i := 29) rfl)) S5 (pc' := 4) rfl (fun T1 P1 => ?_)
  refine s_alen C P1 (by decide +kernel) S6 (pc' := 5) rfl ?_
  refine blk C P1 [.aload_n 0] (by decide +kernel) (pc' := 6) (L' := [.val (.ref a)]) (S' := [.ref a, .int (Int32.ofNat cs.length)]) rfl ?_
  refine c_virtual C P1 (idx := 335) (y := (⟨"java/lang/String", "coder", "()B"⟩ : MethodName)) (K0 := "java/lang/String") (ybytes := jdk_42_method_152_code) (ymax := 1) (yret := (some .byte)) (yrm := ({ frames := 0, cells := 0, slots := 0, locals := 0 } : Room)) (by decide +kernel) (hw _ (List.mem_of_getElem? (i := 57) rfl)) (hw _ (List.mem_of_getElem? (i := 58) rfl)) (hw _ (List.mem_of_getElem? (i := 60) rfl)) (hw _ (List.mem_of_getElem? (i := 59) rfl)) (hw _ (List.mem_of_getElem? (i := 8) rfl)) (hw _ (List.mem_of_getElem? (i := 61) rfl)) (by decide) S.exa [] [.int (Int32.ofNat cs.length)] (k_co0 l wd a P1.old S4) (le_ _ _ rfl) (W := 1) (le_ _ _ rfl) (by decide +kernel : parseMethodDescriptor "()B" = some ⟨[], some .byte⟩) rfl rfl rfl (le_ _ _ rfl) (le_ _ _ rfl) (le_ _ _ rfl) (pc' := 9) rfl (fun T2 h2 v2 P2 Q2 => ?_)
  replace P2 := P2.more (k' := 0) (n' := 0) (le_ _ _ rfl) (le_ _ _ rfl)
  obtain ⟨rfl, rfl⟩ := Q2
  refine blk C P2 [.ishr] (by decide +kernel) (pc' := 10) (L' := [.val (.ref a)]) (S' := [.int ((Int32.ofNat cs.length) >>> ((0 : Int32) &&& 31))]) rfl ?_
  exact r_int C P2 (ty := .int) (by simp) rfl (by decide +kernel) (le_ _ _ rfl) (le_ _ _ rfl) ⟨_, rfl, ⟨_, rfl, rfl⟩⟩
theorem k_il__ef (m : MethodId) (a : Addr) : entryFrame m #[.ref a, .int (65533 : Int32), .int (0 : Int32)] 3 = fr m 0 [.val (.ref a), .val (.int (65533 : Int32)), .val (.int (0 : Int32))] [] := by first | (simp [entryFrame, mkF, argsToLocals, Value.category]; done) | rfl
set_option maxRecDepth 65536 in
set_option maxHeartbeats 4000000 in
theorem k_il_ (l : Launch) {Z : State} {a0 : Array Value} {n0 : Nat} {h : Heap} {z : Int32} {fm : Value} (wd : Wd Z a0 z fm) (a : Addr) {cs : List Int32} (O : Old Z n0 h) (S : Str Z h a cs) :
    Con l Z consts_1 n0 [] (⟨"java/lang/String", "indexOf", "(II)I"⟩ : MethodName) jdk_42_method_80_code 3 (some .int) ({ frames := 2, cells := 0, slots := 0, locals := 28 } : Room) #[.ref a, .int (65533 : Int32), .int (0 : Int32)] h (Ret1 fun v h' => v = .int (-1) ∧ h = h') := by
  obtain ⟨hw, hEL, Sz, hz, SA, SH, SL, SF, hfm⟩ := id wd
  obtain ⟨S1, S2, S3, S4, t, kt, S5, S6⟩ := id S
  refine Con.intro (plainFor_of_name (by first | (simp [plainName, overriddenIn]; done) | decide +kernel)) O hEL ?_
  intro p e s m below meth c T C hs P
  have C : Ctx Z a0 consts_1 p s m meth c "java/lang/String" "indexOf" jdk_42_method_80_code 3 (some .int) := C
  refine Run.cast (k_il__ef m a) ?_
  refine blk C P [.aload_n 0] (by decide +kernel) (pc' := 1) (L' := [.val (.ref a), .val (.int (65533 : Int32)), .val (.int (0 : Int32))]) (S' := [.ref a]) rfl ?_
  refine c_virtual C P (idx := 492) (y := (⟨"java/lang/String", "isLatin1", "()Z"⟩ : MethodName)) (K0 := "java/lang/String") (ybytes := jdk_42_method_154_code) (ymax := 1) (yret := (some .boolean)) (yrm := ({ frames := 0, cells := 0, slots := 0, locals := 0 } : Room)) (by decide +kernel) (hw _ (List.mem_of_getElem? (i := 46) rfl)) (hw _ (List.mem_of_getElem? (i := 47) rfl)) (hw _ (List.mem_of_getElem? (i := 49) rfl)) (hw _ (List.mem_of_getElem? (i := 48) rfl)) (hw _ (List.mem_of_getElem? (i := 8) rfl)) (hw _ (List.mem_of_getElem? (i := 50) rfl)) (by decide) S.exa [] [] (k_il0 l wd a P.old S4) (le_ _ _ rfl) (W := 0) (le_ _ _ rfl) (by decide +kernel : parseMethodDescriptor "()Z" = some ⟨[], some .boolean⟩) rfl rfl rfl (le_ _ _ rfl) (le_ _ _ rfl) (le_ _ _ rfl) (pc' := 4) rfl (fun T1 h1 v1 P1 Q1 => ?_)
  replace P1 := P1.more (k' := 0) (n' := 0) (le_ _ _ rfl) (le_ _ _ rfl)
  obtain ⟨rfl, rfl⟩ := Q1
  refine b_ifN C P1 (cd := .eq) (o := 19) (by decide +kernel) (pc' := 7) rfl (by decide : ¬ (1 : Int32) = 0) ?_
  refine blk C P1 [.aload_n 0] (by decide +kernel) (pc' := 8) (L' := [.val (.ref a), .val (.int (65533 : Int32)), .val (.int (0 : Int32))]) (S' := [.ref a]) rfl ?_
  refine s_getf C P1 (idx := 9) (by decide +kernel) (hw _ (List.mem_of_getElem? (i := 29) rfl)) S5 (pc' := 11) rfl (fun T2 P2 => ?_)
  refine blk C P2 [.iload_n 1, .iload_n 2, .aload_n 0] (by decide +kernel) (pc' := 14) (L' := [.val (.ref a), .val (.int (65533 : Int32)), .val (.int (0 : Int32))]) (S' := [.ref a, .int (0 : Int32), .int (65533 : Int32), .ref t]) rfl ?_
  refine c_virtual C P2 (idx := 505) (y := (⟨"java/lang/String", "length", "()I"⟩ : MethodName)) (K0 := "java/lang/String") (ybytes := jdk_42_method_54_code) (ymax := 1) (yret := (some .int)) (yrm := ({ frames := 1, cells := 0, slots := 0, locals := 13 } : Room)) (by decide +kernel) (hw _ (List.mem_of_getElem? (i := 52) rfl)) (hw _ (List.mem_of_getElem? (i := 53) rfl)) (hw _ (List.mem_of_getElem? (i := 55) rfl)) (hw _ (List.mem_of_getElem? (i := 54) rfl)) (hw _ (List.mem_of_getElem? (i := 8) rfl)) (hw _ (List.mem_of_getElem? (i := 56) rfl)) (by decide) S.exa [] [.int (0 : Int32), .int (65533 : Int32), .ref t] (k_sl l wd a P2.old S) (le_ _ _ rfl) (W := 3) (le_ _ _ rfl) (by decide +kernel : parseMethodDescriptor "()I" = some ⟨[], some .int⟩) rfl rfl rfl (le_ _ _ rfl) (le_ _ _ rfl) (le_ _ _ rfl) (pc' := 17) rfl (fun T3 h3 v3 P3 Q3 => ?_)
  replace P3 := P3.more (k' := 0) (n' := 0) (le_ _ _ rfl) (le_ _ _ rfl)
  obtain ⟨w3, rfl, rfl⟩ := Q3
  refine c_static C P3 (idx := 637) (y := (⟨"java/lang/StringLatin1", "indexOf", "([BIII)I"⟩ : MethodName)) (ybytes := jdk_43_method_22_code) (ymax := 4) (yret := (some .int)) (yrm := ({ frames := 1, cells := 0, slots := 0, locals := 12 } : Room)) (by decide +kernel) (hw _ (List.mem_of_getElem? (i := 62) rfl)) (hw _ (List.mem_of_getElem? (i := 63) rfl)) (hw _ (List.mem_of_getElem? (i := 64) rfl)) (hw _ (List.mem_of_getElem? (i := 65) rfl)) (by decide) [.ref t, .int (65533 : Int32), .int (0 : Int32), .int w3] [] (k_li l wd t w3 P3.old ) (le_ _ _ rfl) (W := 0) (le_ _ _ rfl) (by decide +kernel : parseMethodDescriptor "([BIII)I" = some ⟨[(.array .byte), .int, .int, .int], some .int⟩) rfl rfl rfl (le_ _ _ rfl) (le_ _ _ rfl) (le_ _ _ rfl) (pc' := 20) rfl (fun T4 h4 v4 P4 Q4 => ?_)
  replace P4 := P4.more (k' := 0) (n' := 0) (le_ _ _ rfl) (le_ _ _ rfl)
  obtain ⟨rfl, rfl⟩ := Q4
  refine b_goto C P4 (o := 16) (by decide +kernel) (pc' := 36) (by decide) ?_
  exact r_int C P4 (ty := .int) (by simp) rfl (by decide +kernel) (le_ _ _ rfl) (le_ _ _ rfl) ⟨_, rfl, ⟨rfl, rfl⟩⟩
theorem k_jl_ef (m : MethodId) (a : Addr) : entryFrame m #[.ref a, .int (65533 : Int32)] 2 = fr m 0 [.val (.ref a), .val (.int (65533 : Int32))] [] := by first | (simp [entryFrame, mkF, argsToLocals, Value.category]; done) | rfl
set_option maxRecDepth 65536 in
set_option maxHeartbeats 4000000 in
theorem k_jl (l : Launch) {Z : State} {a0 : Array Value} {n0 : Nat} {h : Heap} {z : Int32} {fm : Value} (wd : Wd Z a0 z fm) (a : Addr) {cs : List Int32} (O : Old Z n0 h) (S : Str Z h a cs) :
    Con l Z consts_1 n0 [] (⟨"java/lang/String", "indexOf", "(I)I"⟩ : MethodName) jdk_42_method_79_code 2 (some .int) ({ frames := 3, cells := 0, slots := 0, locals := 42 } : Room) #[.ref a, .int (65533 : Int32)] h (Ret1 fun v h' => v = .int (-1) ∧ h = h') := by
  obtain ⟨hw, hEL, Sz, hz, SA, SH, SL, SF, hfm⟩ := id wd
  obtain ⟨S1, S2, S3, S4, t, kt, S5, S6⟩ := id S
  refine Con.intro (plainFor_of_name (by first | (simp [plainName, overriddenIn]; done) | decide +kernel)) O hEL ?_
  intro p e s m below meth c T C hs P
  have C : Ctx Z a0 consts_1 p s m meth c "java/lang/String" "indexOf" jdk_42_method_79_code 2 (some .int) := C
  refine Run.cast (k_jl_ef m a) ?_
  refine blk C P [.aload_n 0, .iload_n 1, .iconst 0] (by decide +kernel) (pc' := 3) (L' := [.val (.ref a), .val (.int (65533 : Int32))]) (S' := [.int (0 : Int32), .int (65533 : Int32), .ref a]) rfl ?_
  refine c_virtual C P (idx := 633) (y := (⟨"java/lang/String", "indexOf", "(II)I"⟩ : MethodName)) (K0 := "java/lang/String") (ybytes := jdk_42_method_80_code) (ymax := 3) (yret := (some .int)) (yrm := ({ frames := 2, cells := 0, slots := 0, locals := 28 } : Room)) (by decide +kernel) (hw _ (List.mem_of_getElem? (i := 41) rfl)) (hw _ (List.mem_of_getElem? (i := 42) rfl)) (hw _ (List.mem_of_getElem? (i := 44) rfl)) (hw _ (List.mem_of_getElem? (i := 43) rfl)) (hw _ (List.mem_of_getElem? (i := 8) rfl)) (hw _ (List.mem_of_getElem? (i := 45) rfl)) (by decide) S.exa [.int (65533 : Int32), .int (0 : Int32)] [] (k_il_ l wd a P.old S) (le_ _ _ rfl) (W := 0) (le_ _ _ rfl) (by decide +kernel : parseMethodDescriptor "(II)I" = some ⟨[.int, .int], some .int⟩) rfl rfl rfl (le_ _ _ rfl) (le_ _ _ rfl) (le_ _ _ rfl) (pc' := 6) rfl (fun T1 h1 v1 P1 Q1 => ?_)
  replace P1 := P1.more (k' := 0) (n' := 0) (le_ _ _ rfl) (le_ _ _ rfl)
  obtain ⟨rfl, rfl⟩ := Q1
  exact r_int C P1 (ty := .int) (by simp) rfl (by decide +kernel) (le_ _ _ rfl) (le_ _ _ rfl) ⟨_, rfl, ⟨rfl, rfl⟩⟩
theorem k_ll_ef (m : MethodId) (a : Addr) : entryFrame m #[.ref a] 1 = fr m 0 [.val (.ref a)] [] := by first | (simp [entryFrame, mkF, argsToLocals, Value.category]; done) | rfl
set_option maxRecDepth 65536 in
set_option maxHeartbeats 4000000 in
theorem k_ll (l : Launch) {Z : State} {a0 : Array Value} {n0 : Nat} {h : Heap} {z : Int32} {fm : Value} (wd : Wd Z a0 z fm) (a : Addr) {cs : List Int32} (O : Old Z n0 h) (S : Str Z h a cs) :
    Con l Z consts_1 n0 [] (⟨"com/example/archive_packager/archivepackager/LocaleCharset", "lostBytes", "(Ljava/lang/String;)Z"⟩ : MethodName) prog_3_method_6_code 1 (some .boolean) ({ frames := 4, cells := 0, slots := 0, locals := 55 } : Room) #[.ref a] h (Ret1 fun v h' => v = .int 0 ∧ h = h') := by
  obtain ⟨hw, hEL, Sz, hz, SA, SH, SL, SF, hfm⟩ := id wd
  obtain ⟨S1, S2, S3, S4, t, kt, S5, S6⟩ := id S
  refine Con.intro (plainFor_of_name (by first | (simp [plainName, overriddenIn]; done) | decide +kernel)) O hEL ?_
  intro p e s m below meth c T C hs P
  have C : Ctx Z a0 consts_1 p s m meth c "com/example/archive_packager/archivepackager/LocaleCharset" "lostBytes" prog_3_method_6_code 1 (some .boolean) := C
  refine Run.cast (k_ll_ef m a) ?_
  refine blk C P [.aload_n 0] (by decide +kernel) (pc' := 1) (L' := [.val (.ref a)]) (S' := [.ref a]) rfl ?_
  refine s_ldcI C P (idx := 43) (by decide +kernel) (hw _ (List.mem_of_getElem? (i := 35) rfl)) (pc' := 3) rfl ?_
  refine c_virtual C P (idx := 44) (y := (⟨"java/lang/String", "indexOf", "(I)I"⟩ : MethodName)) (K0 := "java/lang/String") (ybytes := jdk_42_method_79_code) (ymax := 2) (yret := (some .int)) (yrm := ({ frames := 3, cells := 0, slots := 0, locals := 42 } : Room)) (by decide +kernel) (hw _ (List.mem_of_getElem? (i := 36) rfl)) (hw _ (List.mem_of_getElem? (i := 37) rfl)) (hw _ (List.mem_of_getElem? (i := 39) rfl)) (hw _ (List.mem_of_getElem? (i := 38) rfl)) (hw _ (List.mem_of_getElem? (i := 8) rfl)) (hw _ (List.mem_of_getElem? (i := 40) rfl)) (by decide) S.exa [.int (65533 : Int32)] [] (k_jl l wd a P.old S) (le_ _ _ rfl) (W := 0) (le_ _ _ rfl) (by decide +kernel : parseMethodDescriptor "(I)I" = some ⟨[.int], some .int⟩) rfl rfl rfl (le_ _ _ rfl) (le_ _ _ rfl) (le_ _ _ rfl) (pc' := 6) rfl (fun T1 h1 v1 P1 Q1 => ?_)
  replace P1 := P1.more (k' := 0) (n' := 0) (le_ _ _ rfl) (le_ _ _ rfl)
  obtain ⟨rfl, rfl⟩ := Q1
  refine b_ifY C P1 (cd := .lt) (o := 7) (by decide +kernel) (pc' := 13) (by decide) (by decide : (-1 : Int32) < 0) ?_
  refine blk C P1 [.iconst 0] (by decide +kernel) (pc' := 14) (L' := [.val (.ref a)]) (S' := [.int (0 : Int32)]) rfl ?_
  exact r_int C P1 (ty := .boolean) (by simp) rfl (by decide +kernel) (le_ _ _ rfl) (le_ _ _ rfl) ⟨_, rfl, ⟨rfl, rfl⟩⟩
theorem k_nl1_ef (m : MethodId)  : entryFrame m #[.int (1 : Int32)] 1 = fr m 0 [.val (.int (1 : Int32))] [] := by first | (simp [entryFrame, mkF, argsToLocals, Value.category]; done) | rfl
set_option maxRecDepth 65536 in
set_option maxHeartbeats 4000000 in
theorem k_nl1 (l : Launch) {Z : State} {a0 : Array Value} {n0 : Nat} {h : Heap} {z : Int32} {fm : Value} (wd : Wd Z a0 z fm)   (O : Old Z n0 h)  :
    Con l Z consts_1 n0 [] (⟨"java/lang/StringUTF16", "newBytesLength", "(I)I"⟩ : MethodName) jdk_52_method_3_code 1 (some .int) ({ frames := 0, cells := 0, slots := 0, locals := 0 } : Room) #[.int (1 : Int32)] h (Ret1 fun v h' => v = .int 2 ∧ h = h') := by
  obtain ⟨hw, hEL, Sz, hz, SA, SH, SL, SF, hfm⟩ := id wd
  refine Con.intro (plainFor_of_name (by first | (simp [plainName, overriddenIn]; done) | decide +kernel)) O hEL ?_
  intro p e s m below meth c T C hs P
  have C : Ctx Z a0 consts_1 p s m meth c "java/lang/StringUTF16" "newBytesLength" jdk_52_method_3_code 1 (some .int) := C
  refine Run.cast (k_nl1_ef m) ?_
  refine blk C P [.iload_n 0] (by decide +kernel) (pc' := 1) (L' := [.val (.int (1 : Int32))]) (S' := [.int (1 : Int32)]) rfl ?_
  refine b_ifY C P (cd := .ge) (o := 11) (by decide +kernel) (pc' := 12) (by decide) (by decide : ¬ (1 : Int32) < 0) ?_
  refine blk C P [.iload_n 0] (by decide +kernel) (pc' := 13) (L' := [.val (.int (1 : Int32))]) (S' := [.int (1 : Int32)]) rfl ?_
  refine s_ldcI C P (idx := 20) (by decide +kernel) (hw _ (List.mem_of_getElem? (i := 85) rfl)) (pc' := 15) rfl ?_
  refine b_cmY C P (cd := .lt) (o := 40) (by decide +kernel) (pc' := 55) (by decide) (by decide : (1 : Int32) < (1073741823 : Int32)) ?_
  refine blk C P [.iload_n 0, .iconst 1, .ishl] (by decide +kernel) (pc' := 58) (L' := [.val (.int (1 : Int32))]) (S' := [.int (2 : Int32)]) rfl ?_
  exact r_int C P (ty := .int) (by simp) rfl (by decide +kernel) (le_ _ _ rfl) (le_ _ _ rfl) ⟨_, rfl, ⟨rfl, rfl⟩⟩
theorem k_nf1_ef (m : MethodId)  : entryFrame m #[.int (1 : Int32)] 1 = fr m 0 [.val (.int (1 : Int32))] [] := by first | (simp [entryFrame, mkF, argsToLocals, Value.category]; done) | rfl
set_option maxRecDepth 65536 in
set_option maxHeartbeats 4000000 in
theorem k_nf1 (l : Launch) {Z : State} {a0 : Array Value} {n0 : Nat} {h : Heap} {z : Int32} {fm : Value} (wd : Wd Z a0 z fm)   (O : Old Z n0 h)  :
    Con l Z consts_1 n0 [] (⟨"java/lang/StringUTF16", "newBytesFor", "(I)[B"⟩ : MethodName) jdk_52_method_2_code 1 (some (.array .byte)) ({ frames := 1, cells := 1, slots := 2, locals := 12 } : Room) #[.int (1 : Int32)] h (Ret1 fun v h' => v = .ref h.size ∧ Ext h h' ∧ Bys Z n0 h' h.size [0, 0]) := by
  obtain ⟨hw, hEL, Sz, hz, SA, SH, SL, SF, hfm⟩ := id wd
  refine Con.intro (plainFor_of_name (by first | (simp [plainName, overriddenIn]; done) | decide +kernel)) O hEL ?_
  intro p e s m below meth c T C hs P
  have C : Ctx Z a0 consts_1 p s m meth c "java/lang/StringUTF16" "newBytesFor" jdk_52_method_2_code 1 (some (.array .byte)) := C
  refine Run.cast (k_nf1_ef m) ?_
  refine blk C P [.iload_n 0] (by decide +kernel) (pc' := 1) (L' := [.val (.int (1 : Int32))]) (S' := [.int (1 : Int32)]) rfl ?_
  refine c_static C P (idx := 11) (y := (⟨"java/lang/StringUTF16", "newBytesLength", "(I)I"⟩ : MethodName)) (ybytes := jdk_52_method_3_code) (ymax := 1) (yret := (some .int)) (yrm := ({ frames := 0, cells := 0, slots := 0, locals := 0 } : Room)) (by decide +kernel) (hw _ (List.mem_of_getElem? (i := 82) rfl)) (hw _ (List.mem_of_getElem? (i := 83) rfl)) (hw _ (List.mem_of_getElem? (i := 71) rfl)) (hw _ (List.mem_of_getElem? (i := 84) rfl)) (by decide) [.int (1 : Int32)] [] (k_nl1 l wd  P.old ) (le_ _ _ rfl) (W := 0) (le_ _ _ rfl) (by decide +kernel : parseMethodDescriptor "(I)I" = some ⟨[.int], some .int⟩) rfl rfl rfl (le_ _ _ rfl) (le_ _ _ rfl) (le_ _ _ rfl) (pc' := 4) rfl (fun T1 h1 v1 P1 Q1 => ?_)
  replace P1 := P1.more (k' := 0) (n' := 0) (le_ _ _ rfl) (le_ _ _ rfl)
  obtain ⟨rfl, rfl⟩ := Q1
  refine s_newB C P1 2 (by decide +kernel) (hw _ (List.mem_of_getElem? (i := 24) rfl)) rfl (by decide) (le_ _ _ rfl) (le_ _ _ rfl) (pc' := 6) rfl (fun T2 h2 P2 E2 V2 => ?_)
  replace P2 := P2.more (k' := 1) (n' := 2) (le_ _ _ rfl) (le_ _ _ rfl)
  exact r_ref C P2 (w := .ref h.size) rfl rfl (by decide +kernel) (le_ _ _ rfl) (le_ _ _ rfl) ⟨_, rfl, ⟨rfl, E2, V2⟩⟩
theorem k_tb1_ef (m : MethodId) (b : Addr) (x0 : Int32) : entryFrame m #[.ref b, .int (0 : Int32), .int (1 : Int32)] 5 = fr m 0 [.val (.ref b), .val (.int (0 : Int32)), .val (.int (1 : Int32)), .unset, .unset] [] := by first | (simp [entryFrame, mkF, argsToLocals, Value.category]; done) | rfl
set_option maxRecDepth 65536 in
set_option maxHeartbeats 4000000 in
theorem k_tb1 (l : Launch) {Z : State} {a0 : Array Value} {n0 : Nat} {h : Heap} {z : Int32} {fm : Value} (wd : Wd Z a0 z fm) (b : Addr) (x0 : Int32)  (O : Old Z n0 h) (V : Chs Z n0 h b [x0]) :
    Con l Z consts_1 n0 [] (⟨"java/lang/StringUTF16", "toBytes", "([CII)[B"⟩ : MethodName) jdk_52_method_14_code 5 (some (.array .byte)) ({ frames := 2, cells := 1, slots := 2, locals := 24 } : Room) #[.ref b, .int (0 : Int32), .int (1 : Int32)] h (Ret1 fun v h' => v = .ref h.size ∧ Ext h h' ∧ Bys Z n0 h' h.size (wide [x0])) := by
  obtain ⟨hw, hEL, Sz, hz, SA, SH, SL, SF, hfm⟩ := id wd
  refine Con.intro (plainFor_of_name (by first | (simp [plainName, overriddenIn]; done) | decide +kernel)) O hEL ?_
  intro p e s m below meth c T C hs P
  have C : Ctx Z a0 consts_1 p s m meth c "java/lang/StringUTF16" "toBytes" jdk_52_method_14_code 5 (some (.array .byte)) := C
  refine Run.cast (k_tb1_ef m b x0) ?_
  refine blk C P [.iload_n 2] (by decide +kernel) (pc' := 1) (L' := [.val (.ref b), .val (.int (0 : Int32)), .val (.int (1 : Int32)), .unset, .unset]) (S' := [.int (1 : Int32)]) rfl ?_
  refine c_static C P (idx := 107) (y := (⟨"java/lang/StringUTF16", "newBytesFor", "(I)[B"⟩ : MethodName)) (ybytes := jdk_52_method_2_code) (ymax := 1) (yret := (some (.array .byte))) (yrm := ({ frames := 1, cells := 1, slots := 2, locals := 12 } : Room)) (by decide +kernel) (hw _ (List.mem_of_getElem? (i := 79) rfl)) (hw _ (List.mem_of_getElem? (i := 80) rfl)) (hw _ (List.mem_of_getElem? (i := 71) rfl)) (hw _ (List.mem_of_getElem? (i := 81) rfl)) (by decide) [.int (1 : Int32)] [] (k_nf1 l wd  P.old ) (le_ _ _ rfl) (W := 0) (le_ _ _ rfl) (by decide +kernel : parseMethodDescriptor "(I)[B" = some ⟨[.int], some (.array .byte)⟩) rfl rfl rfl (le_ _ _ rfl) (le_ _ _ rfl) (le_ _ _ rfl) (pc' := 4) rfl (fun T1 h1 v1 P1 Q1 => ?_)
  replace P1 := P1.more (k' := 1) (n' := 2) (le_ _ _ rfl) (le_ _ _ rfl)
  obtain ⟨rfl, E1, V1⟩ := Q1
  refine blk C P1 [.astore_n 3, .iconst 0, .istore 4, .iload 4, .iload_n 2] (by decide +kernel) (pc' := 11) (L' := [.val (.ref b), .val (.int (0 : Int32)), .val (.int (1 : Int32)), .val (.ref h.size), .val (.int (0 : Int32))]) (S' := [.int (1 : Int32), .int (0 : Int32)]) rfl ?_
  refine b_cmN C P1 (cd := .ge) (o := 21) (by decide +kernel) (pc' := 14) rfl (by decide : (0 : Int32) < (1 : Int32)) ?_
  refine blk C P1 [.aload_n 3, .iload 4, .aload_n 0, .iload_n 1] (by decide +kernel) (pc' := 19) (L' := [.val (.ref b), .val (.int (0 : Int32)), .val (.int (1 : Int32)), .val (.ref h.size), .val (.int (0 : Int32))]) (S' := [.int (0 : Int32), .ref b, .int (0 : Int32), .ref h.size]) rfl ?_
  refine s_ldC C P1 0 (x := x0) (by decide +kernel) (V.ext E1) rfl rfl (pc' := 20) rfl ?_
  refine c_static0 C P1 (idx := 111) (y := (⟨"java/lang/StringUTF16", "putChar", "([BII)V"⟩ : MethodName)) (ybytes := jdk_52_method_4_code) (ymax := 3) (yrm := ({ frames := 0, cells := 0, slots := 0, locals := 0 } : Room)) (by decide +kernel) (hw _ (List.mem_of_getElem? (i := 86) rfl)) (hw _ (List.mem_of_getElem? (i := 87) rfl)) (hw _ (List.mem_of_getElem? (i := 71) rfl)) (hw _ (List.mem_of_getElem? (i := 88) rfl)) (by decide) [.ref h.size, .int (0 : Int32), .int x0] [] (k_pc0 l wd (h.size) x0 P1.old V1 (Nat.lt_of_lt_of_le (Nat.lt_succ_self _) (le_ _ _ rfl))) (le_ _ _ rfl) (W := 0) (le_ _ _ rfl) (by decide +kernel : parseMethodDescriptor "([BII)V" = some ⟨[(.array .byte), .int, .int], none⟩) rfl rfl rfl (le_ _ _ rfl) (le_ _ _ rfl) (le_ _ _ rfl) (pc' := 23) rfl (fun T2 h2 P2 Q2 => ?_)
  replace P2 := P2.more (k' := 1) (n' := 2) (le_ _ _ rfl) (le_ _ _ rfl)
  obtain ⟨K2, V2⟩ := Q2
  replace V2 : Bys Z n0 h2 (h.size) [(wlo x0), (whi x0)] := V2
  refine blk C P2 [.iinc 1 1, .iinc 4 1] (by decide +kernel) (pc' := 29) (L' := [.val (.ref b), .val (.int (1 : Int32)), .val (.int (1 : Int32)), .val (.ref h.size), .val (.int (1 : Int32))]) (S' := []) rfl ?_
  refine b_goto C P2 (o := -21) (by decide +kernel) (pc' := 8) (by decide) ?_
  refine blk C P2 [.iload 4, .iload_n 2] (by decide +kernel) (pc' := 11) (L' := [.val (.ref b), .val (.int (1 : Int32)), .val (.int (1 : Int32)), .val (.ref h.size), .val (.int (1 : Int32))]) (S' := [.int (1 : Int32), .int (1 : Int32)]) rfl ?_
  refine b_cmY C P2 (cd := .ge) (o := 21) (by decide +kernel) (pc' := 32) (by decide) (by decide : ¬ (1 : Int32) < (1 : Int32)) ?_
  refine blk C P2 [.aload_n 3] (by decide +kernel) (pc' := 33) (L' := [.val (.ref b), .val (.int (1 : Int32)), .val (.int (1 : Int32)), .val (.ref h.size), .val (.int (1 : Int32))]) (S' := [.ref h.size]) rfl ?_
  exact r_ref C P2 (w := .ref h.size) rfl rfl (by decide +kernel) (le_ _ _ rfl) (le_ _ _ rfl) ⟨_, rfl, ⟨rfl, (exK E1 K2 (Nat.le_refl _)), V2⟩⟩
theorem k_c5_1_ef (m : MethodId) (b d : Addr) (x0 : Int32) : entryFrame m #[.ref b, .int (0 : Int32), .ref d, .int (0 : Int32), .int (1 : Int32)] 7 = fr m 0 [.val (.ref b), .val (.int (0 : Int32)), .val (.ref d), .val (.int (0 : Int32)), .val (.int (1 : Int32)), .unset, .unset] [] := by first | (simp [entryFrame, mkF, argsToLocals, Value.category]; done) | rfl
set_option maxRecDepth 65536 in
set_option maxHeartbeats 4000000 in
theorem k_c5_1 (l : Launch) {Z : State} {a0 : Array Value} {n0 : Nat} {h : Heap} {z : Int32} {fm : Value} (wd : Wd Z a0 z fm) (b d : Addr) (x0 : Int32)  (O : Old Z n0 h) (V : Chs Z n0 h b [x0]) (D : Bys Z n0 h d [0]) (any : (255 : Int32) < x0) :
    Con l Z consts_1 n0 [] (⟨"java/lang/StringUTF16", "compress", "([CI[BII)I"⟩ : MethodName) jdk_52_method_21_code 7 (some .int) ({ frames := 0, cells := 0, slots := 0, locals := 0 } : Room) #[.ref b, .int (0 : Int32), .ref d, .int (0 : Int32), .int (1 : Int32)] h (Ret1 fun v h' => Keep h h' [d] ∧ ((v = .int 0 ∧ (255 : Int32) < x0))) := by
  obtain ⟨hw, hEL, Sz, hz, SA, SH, SL, SF, hfm⟩ := id wd
  refine Con.intro (plainFor_of_name (by first | (simp [plainName, overriddenIn]; done) | decide +kernel)) O hEL ?_
  intro p e s m below meth c T C hs P
  have C : Ctx Z a0 consts_1 p s m meth c "java/lang/StringUTF16" "compress" jdk_52_method_21_code 7 (some .int) := C
  have hE : ∀ p ∈ consts_1, (Jvm.Cond.stringLink p.1 p.2 "").before a0 Z = true := fun p hp => by cases List.mem_singleton.mp hp; exact (hw _ (List.mem_of_getElem? (i := 23) rfl))
  refine Run.cast (k_c5_1_ef m b d x0) ?_
  refine blk C P [.iconst 0, .istore 5, .iload 5, .iload 4] (by decide +kernel) (pc' := 7) (L' := [.val (.ref b), .val (.int (0 : Int32)), .val (.ref d), .val (.int (0 : Int32)), .val (.int (1 : Int32)), .val (.int (0 : Int32)), .unset]) (S' := [.int (1 : Int32), .int (0 : Int32)]) rfl ?_
  refine b_cmN C P (cd := .ge) (o := 37) (by decide +kernel) (pc' := 10) rfl (by decide : (0 : Int32) < (1 : Int32)) ?_
  refine blk C P [.aload_n 0, .iload_n 1] (by decide +kernel) (pc' := 12) (L' := [.val (.ref b), .val (.int (0 : Int32)), .val (.ref d), .val (.int (0 : Int32)), .val (.int (1 : Int32)), .val (.int (0 : Int32)), .unset]) (S' := [.int (0 : Int32), .ref b]) rfl ?_
  refine s_ldC C P 0 (x := x0) (by decide +kernel) V rfl rfl (pc' := 13) rfl ?_
  refine blk C P [.istore 6, .iload 6, .sipush 255] (by decide +kernel) (pc' := 20) (L' := [.val (.ref b), .val (.int (0 : Int32)), .val (.ref d), .val (.int (0 : Int32)), .val (.int (1 : Int32)), .val (.int (0 : Int32)), .val (.int x0)]) (S' := [.int (255 : Int32), .int x0]) rfl ?_
  refine b_cm C P (cd := .le) (o := 6) (by decide +kernel) (pc' := 26) (by decide) (pn := 23) rfl (fun (q1 : ¬ (255 : Int32) < x0) => ?_) (fun (q1 : (255 : Int32) < x0) => ?_)
  · skip
    refine blk C P [.aload_n 2, .iload_n 3, .iload 6, .i2b] (by decide +kernel) (pc' := 31) (L' := [.val (.ref b), .val (.int (0 : Int32)), .val (.ref d), .val (.int (0 : Int32)), .val (.int (1 : Int32)), .val (.int (0 : Int32)), .val (.int x0)]) (S' := [.int (x0.toInt8.toInt32), .int (0 : Int32), .ref d]) rfl ?_
    refine s_stB C P hE 0 (by decide +kernel) D rfl (Nat.lt_of_lt_of_le (Nat.lt_succ_self _) (le_ _ _ rfl)) (b8_idem _) (pc' := 32) rfl (fun T2 h2 P2 K2 V2 => ?_)
    have V3 := Chs.keep V K2 (Chs.neB V D)
    replace V2 : Bys Z n0 h2 (d) [(x0.toInt8.toInt32)] := V2
    refine blk C P2 [.iinc 1 1, .iinc 3 1, .iinc 5 1] (by decide +kernel) (pc' := 41) (L' := [.val (.ref b), .val (.int (1 : Int32)), .val (.ref d), .val (.int (1 : Int32)), .val (.int (1 : Int32)), .val (.int (1 : Int32)), .val (.int x0)]) (S' := []) rfl ?_
    refine b_goto C P2 (o := -38) (by decide +kernel) (pc' := 3) (by decide) ?_
    refine blk C P2 [.iload 5, .iload 4] (by decide +kernel) (pc' := 7) (L' := [.val (.ref b), .val (.int (1 : Int32)), .val (.ref d), .val (.int (1 : Int32)), .val (.int (1 : Int32)), .val (.int (1 : Int32)), .val (.int x0)]) (S' := [.int (1 : Int32), .int (1 : Int32)]) rfl ?_
    refine b_cmY C P2 (cd := .ge) (o := 37) (by decide +kernel) (pc' := 44) (by decide) (by decide : ¬ (1 : Int32) < (1 : Int32)) ?_
    exact absurd any q1
  · skip
    refine blk C P [.iload 5] (by decide +kernel) (pc' := 25) (L' := [.val (.ref b), .val (.int (0 : Int32)), .val (.ref d), .val (.int (0 : Int32)), .val (.int (1 : Int32)), .val (.int (0 : Int32)), .val (.int x0)]) (S' := [.int (0 : Int32)]) rfl ?_
    exact r_int C P (ty := .int) (by simp) rfl (by decide +kernel) (le_ _ _ rfl) (le_ _ _ rfl) ⟨_, rfl, ⟨(Keep.refl h [d]), ⟨rfl, q1⟩⟩⟩
theorem k_c3_1_ef (m : MethodId) (b : Addr) (x0 : Int32) : entryFrame m #[.ref b, .int (0 : Int32), .int (1 : Int32)] 6 = fr m 0 [.val (.ref b), .val (.int (0 : Int32)), .val (.int (1 : Int32)), .unset, .unset, .unset] [] := by first | (simp [entryFrame, mkF, argsToLocals, Value.category]; done) | rfl
set_option maxRecDepth 65536 in
set_option maxHeartbeats 4000000 in
theorem k_c3_1 (l : Launch) {Z : State} {a0 : Array Value} {n0 : Nat} {h : Heap} {z : Int32} {fm : Value} (wd : Wd Z a0 z fm) (b : Addr) (x0 : Int32)  (O : Old Z n0 h) (V : Chs Z n0 h b [x0]) (any : (255 : Int32) < x0) (i0 : c16 x0 = x0) :
    Con l Z consts_1 n0 [] (⟨"java/lang/StringUTF16", "compress", "([CII)[B"⟩ : MethodName) jdk_52_method_16_code 6 (some (.array .byte)) ({ frames := 3, cells := 2, slots := 3, locals := 40 } : Room) #[.ref b, .int (0 : Int32), .int (1 : Int32)] h (Ret1 fun v h' => ∃ t, v = .ref t ∧ Ext h h' ∧ Bys Z n0 h' t (wide [x0])) := by
  obtain ⟨hw, hEL, Sz, hz, SA, SH, SL, SF, hfm⟩ := id wd
  refine Con.intro (plainFor_of_name (by first | (simp [plainName, overriddenIn]; done) | decide +kernel)) O hEL ?_
  intro p e s m below meth c T C hs P
  have C : Ctx Z a0 consts_1 p s m meth c "java/lang/StringUTF16" "compress" jdk_52_method_16_code 6 (some (.array .byte)) := C
  refine Run.cast (k_c3_1_ef m b x0) ?_
  refine blk C P [.iload_n 2] (by decide +kernel) (pc' := 1) (L' := [.val (.ref b), .val (.int (0 : Int32)), .val (.int (1 : Int32)), .unset, .unset, .unset]) (S' := [.int (1 : Int32)]) rfl ?_
  refine s_newB C P 1 (by decide +kernel) (hw _ (List.mem_of_getElem? (i := 24) rfl)) rfl (by decide) (le_ _ _ rfl) (le_ _ _ rfl) (pc' := 3) rfl (fun T1 h1 P1 E1 V1 => ?_)
  replace P1 := P1.more (k' := 1) (n' := 1) (le_ _ _ rfl) (le_ _ _ rfl)
  refine blk C P1 [.astore_n 3, .aload_n 0, .iload_n 1, .aload_n 3, .iconst 0, .iload_n 2] (by decide +kernel) (pc' := 9) (L' := [.val (.ref b), .val (.int (0 : Int32)), .val (.int (1 : Int32)), .val (.ref h.size), .unset, .unset]) (S' := [.int (1 : Int32), .int (0 : Int32), .ref h.size, .int (0 : Int32), .ref b]) rfl ?_
  refine c_static C P1 (idx := 115) (y := (⟨"java/lang/StringUTF16", "compress", "([CI[BII)I"⟩ : MethodName)) (ybytes := jdk_52_method_21_code) (ymax := 7) (yret := (some .int)) (yrm := ({ frames := 0, cells := 0, slots := 0, locals := 0 } : Room)) (by decide +kernel) (hw _ (List.mem_of_getElem? (i := 73) rfl)) (hw _ (List.mem_of_getElem? (i := 74) rfl)) (hw _ (List.mem_of_getElem? (i := 71) rfl)) (hw _ (List.mem_of_getElem? (i := 75) rfl)) (by decide) [.ref b, .int (0 : Int32), .ref h.size, .int (0 : Int32), .int (1 : Int32)] [] (k_c5_1 l wd b (h.size) x0 P1.old (V.ext E1) V1 any) (le_ _ _ rfl) (W := 0) (le_ _ _ rfl) (by decide +kernel : parseMethodDescriptor "([CI[BII)I" = some ⟨[(.array .char), .int, (.array .byte), .int, .int], some .int⟩) rfl rfl rfl (le_ _ _ rfl) (le_ _ _ rfl) (le_ _ _ rfl) (pc' := 12) rfl (fun T2 h2 v2 P2 Q2 => ?_)
  replace P2 := P2.more (k' := 1) (n' := 1) (le_ _ _ rfl) (le_ _ _ rfl)
  obtain ⟨K2, Q2⟩ := Q2
  rcases Q2 with ⟨rfl, Q2⟩
  · skip
    refine blk C P2 [.istore 4, .iload 4, .iload_n 2] (by decide +kernel) (pc' := 17) (L' := [.val (.ref b), .val (.int (0 : Int32)), .val (.int (1 : Int32)), .val (.ref h.size), .val (.int (0 : Int32)), .unset]) (S' := [.int (1 : Int32), .int (0 : Int32)]) rfl ?_
    refine b_cmN C P2 (cd := .eq) (o := 40) (by decide +kernel) (pc' := 20) rfl (by decide : ¬ (0 : Int32) = (1 : Int32)) ?_
    refine blk C P2 [.aload_n 0, .iload_n 1, .iload_n 2] (by decide +kernel) (pc' := 23) (L' := [.val (.ref b), .val (.int (0 : Int32)), .val (.int (1 : Int32)), .val (.ref h.size), .val (.int (0 : Int32)), .unset]) (S' := [.int (1 : Int32), .int (0 : Int32), .ref b]) rfl ?_
    refine c_static C P2 (idx := 119) (y := (⟨"java/lang/StringUTF16", "toBytes", "([CII)[B"⟩ : MethodName)) (ybytes := jdk_52_method_14_code) (ymax := 5) (yret := (some (.array .byte))) (yrm := ({ frames := 2, cells := 1, slots := 2, locals := 24 } : Room)) (by decide +kernel) (hw _ (List.mem_of_getElem? (i := 76) rfl)) (hw _ (List.mem_of_getElem? (i := 77) rfl)) (hw _ (List.mem_of_getElem? (i := 71) rfl)) (hw _ (List.mem_of_getElem? (i := 78) rfl)) (by decide) [.ref b, .int (0 : Int32), .int (1 : Int32)] [] (k_tb1 l wd b x0 P2.old (V.ext (exK E1 K2 (Nat.le_refl _)))) (le_ _ _ rfl) (W := 0) (le_ _ _ rfl) (by decide +kernel : parseMethodDescriptor "([CII)[B" = some ⟨[(.array .char), .int, .int], some (.array .byte)⟩) rfl rfl rfl (le_ _ _ rfl) (le_ _ _ rfl) (le_ _ _ rfl) (pc' := 26) rfl (fun T3 h3 v3 P3 Q3 => ?_)
    replace P3 := P3.more (k' := 2) (n' := 3) (le_ _ _ rfl) (le_ _ _ rfl)
    obtain ⟨rfl, E3, V3⟩ := Q3
    refine blk C P3 [.astore 5, .aload 5, .iload 4] (by decide +kernel) (pc' := 32) (L' := [.val (.ref b), .val (.int (0 : Int32)), .val (.int (1 : Int32)), .val (.ref h.size), .val (.int (0 : Int32)), .val (.ref h2.size)]) (S' := [.int (0 : Int32), .ref h2.size]) rfl ?_
    refine c_static C P3 (idx := 71) (y := (⟨"java/lang/StringUTF16", "getChar", "([BI)C"⟩ : MethodName)) (ybytes := jdk_52_method_5_code) (ymax := 2) (yret := (some .char)) (yrm := ({ frames := 0, cells := 0, slots := 0, locals := 0 } : Room)) (by decide +kernel) (hw _ (List.mem_of_getElem? (i := 92) rfl)) (hw _ (List.mem_of_getElem? (i := 93) rfl)) (hw _ (List.mem_of_getElem? (i := 71) rfl)) (hw _ (List.mem_of_getElem? (i := 94) rfl)) (by decide) [.ref h2.size, .int (0 : Int32)] [] (k_gc0 l wd (h2.size) x0 P3.old V3 rfl rfl i0) (le_ _ _ rfl) (W := 0) (le_ _ _ rfl) (by decide +kernel : parseMethodDescriptor "([BI)C" = some ⟨[(.array .byte), .int], some .char⟩) rfl rfl rfl (le_ _ _ rfl) (le_ _ _ rfl) (le_ _ _ rfl) (pc' := 35) rfl (fun T4 h4 v4 P4 Q4 => ?_)
    replace P4 := P4.more (k' := 2) (n' := 3) (le_ _ _ rfl) (le_ _ _ rfl)
    obtain ⟨rfl, rfl⟩ := Q4
    refine blk C P4 [.sipush 255] (by decide +kernel) (pc' := 38) (L' := [.val (.ref b), .val (.int (0 : Int32)), .val (.int (1 : Int32)), .val (.ref h.size), .val (.int (0 : Int32)), .val (.ref h2.size)]) (S' := [.int (255 : Int32), .int x0]) rfl ?_
    refine b_cmY C P4 (cd := .gt) (o := 16) (by decide +kernel) (pc' := 54) (by decide) Q2 ?_
    refine blk C P4 [.aload 5] (by decide +kernel) (pc' := 56) (L' := [.val (.ref b), .val (.int (0 : Int32)), .val (.int (1 : Int32)), .val (.ref h.size), .val (.int (0 : Int32)), .val (.ref h2.size)]) (S' := [.ref h2.size]) rfl ?_
    exact r_ref C P4 (w := .ref h2.size) rfl rfl (by decide +kernel) (le_ _ _ rfl) (le_ _ _ rfl) ⟨_, rfl, ⟨_, rfl, (exT (exK E1 K2 (Nat.le_refl _)) E3), V3⟩⟩
theorem k_cl1_ef (m : MethodId) (t : Addr) (x0 : Int32) : entryFrame m #[.ref t, .int (1 : Int32)] 2 = fr m 0 [.val (.ref t), .val (.int (1 : Int32))] [] := by first | (simp [entryFrame, mkF, argsToLocals, Value.category]; done) | rfl
set_option maxRecDepth 65536 in
set_option maxHeartbeats 4000000 in
theorem k_cl1 (l : Launch) {Z : State} {a0 : Array Value} {n0 : Nat} {h : Heap} {z : Int32} {fm : Value} (wd : Wd Z a0 z fm) (t : Addr) (x0 : Int32)  (O : Old Z n0 h) (B : Bys Z n0 h t (wide [x0])) :
    Con l Z consts_1 n0 [] (⟨"java/lang/StringUTF16", "coderFromArrayLen", "([BI)B"⟩ : MethodName) jdk_52_method_15_code 2 (some .byte) ({ frames := 0, cells := 0, slots := 0, locals := 0 } : Room) #[.ref t, .int (1 : Int32)] h (Ret1 fun v h' => v = .int 1 ∧ h = h') := by
  obtain ⟨hw, hEL, Sz, hz, SA, SH, SL, SF, hfm⟩ := id wd
  refine Con.intro (plainFor_of_name (by first | (simp [plainName, overriddenIn]; done) | decide +kernel)) O hEL ?_
  intro p e s m below meth c T C hs P
  have C : Ctx Z a0 consts_1 p s m meth c "java/lang/StringUTF16" "coderFromArrayLen" jdk_52_method_15_code 2 (some .byte) := C
  refine Run.cast (k_cl1_ef m t x0) ?_
  refine blk C P [.iload_n 1, .aload_n 0] (by decide +kernel) (pc' := 2) (L' := [.val (.ref t), .val (.int (1 : Int32))]) (S' := [.ref t, .int (1 : Int32)]) rfl ?_
  refine s_alenB C P 2 (by decide +kernel) B rfl (pc' := 3) rfl ?_
  refine blk C P [.isub, .bipush 31, .iushr, .i2b] (by decide +kernel) (pc' := 8) (L' := [.val (.ref t), .val (.int (1 : Int32))]) (S' := [.int (1 : Int32)]) rfl ?_
  exact r_int C P (ty := .byte) (by simp) rfl (by decide +kernel) (le_ _ _ rfl) (le_ _ _ rfl) ⟨_, rfl, ⟨rfl, rfl⟩⟩
theorem k_i4_1_ef (m : MethodId) (a b : Addr) (x0 : Int32) : entryFrame m #[.ref a, .ref b, .int (0 : Int32), .int (1 : Int32), .null] 6 = fr m 0 [.val (.ref a), .val (.ref b), .val (.int (0 : Int32)), .val (.int (1 : Int32)), .val (.null), .unset] [] := by first | (simp [entryFrame, mkF, argsToLocals, Value.category]; done) | rfl
set_option maxRecDepth 65536 in
set_option maxHeartbeats 4000000 in
theorem k_i4_1 (l : Launch) {Z : State} {a0 : Array Value} {n0 : Nat} {h : Heap} {z : Int32} {fm : Value} (wd : Wd Z a0 z fm) (a b : Addr) (x0 : Int32)  (O : Old Z n0 h) (B : Blk Z a0 n0 h a sST) (V : Chs Z n0 h b [x0]) (any : (255 : Int32) < x0) (i0 : c16 x0 = x0) :
    Con l Z consts_1 n0 [] (⟨"java/lang/String", "<init>", "([CIILjava/lang/Void;)V"⟩ : MethodName) jdk_42_method_149_code 6 none ({ frames := 4, cells := 2, slots := 3, locals := 57 } : Room) #[.ref a, .ref b, .int (0 : Int32), .int (1 : Int32), .null] h (Ret0 fun h' => Keep h h' [a] ∧ Str16 Z n0 h' a [x0]) := by
  obtain ⟨hw, hEL, Sz, hz, SA, SH, SL, SF, hfm⟩ := id wd
  refine Con.intro (plainFor_of_name (by first | (simp [plainName, overriddenIn]; done) | decide +kernel)) O hEL ?_
  intro p e s m below meth c T C hs P
  have C : Ctx Z a0 consts_1 p s m meth c "java/lang/String" "<init>" jdk_42_method_149_code 6 none := C
  refine Run.cast (k_i4_1_ef m a b x0) ?_
  refine blk C P [.aload_n 0] (by decide +kernel) (pc' := 1) (L' := [.val (.ref a), .val (.ref b), .val (.int (0 : Int32)), .val (.int (1 : Int32)), .val (.null), .unset]) (S' := [.ref a]) rfl ?_
  refine s_initO C P (idx := 1) (by decide +kernel) (hw _ (List.mem_of_getElem? (i := 20) rfl)) (hw _ (List.mem_of_getElem? (i := 21) rfl)) (hw _ (List.mem_of_getElem? (i := 22) rfl)) rfl (le_ _ _ rfl) (W := 0) (le_ _ _ rfl) (le_ _ _ rfl) (pc' := 4) rfl (fun T1 P1 => ?_)
  refine blk C P1 [.iload_n 3] (by decide +kernel) (pc' := 5) (L' := [.val (.ref a), .val (.ref b), .val (.int (0 : Int32)), .val (.int (1 : Int32)), .val (.null), .unset]) (S' := [.int (1 : Int32)]) rfl ?_
  refine b_ifY C P1 (cd := .ne) (o := 22) (by decide +kernel) (pc' := 27) (by decide) (by decide : ¬ (1 : Int32) = 0) ?_
  refine s_gets C P1 (idx := 38) (by decide +kernel) (hw _ (List.mem_of_getElem? (i := 51) rfl)) Sz (pc' := 30) rfl (fun T2 P2 => ?_)
  refine b_ifN C P2 (cd := .eq) (o := 28) (by decide +kernel) (pc' := 33) rfl hz ?_
  refine blk C P2 [.aload_n 1, .iload_n 2, .iload_n 3] (by decide +kernel) (pc' := 36) (L' := [.val (.ref a), .val (.ref b), .val (.int (0 : Int32)), .val (.int (1 : Int32)), .val (.null), .unset]) (S' := [.int (1 : Int32), .int (0 : Int32), .ref b]) rfl ?_
  refine c_static C P2 (idx := 177) (y := (⟨"java/lang/StringUTF16", "compress", "([CII)[B"⟩ : MethodName)) (ybytes := jdk_52_method_16_code) (ymax := 6) (yret := (some (.array .byte))) (yrm := ({ frames := 3, cells := 2, slots := 3, locals := 40 } : Room)) (by decide +kernel) (hw _ (List.mem_of_getElem? (i := 69) rfl)) (hw _ (List.mem_of_getElem? (i := 70) rfl)) (hw _ (List.mem_of_getElem? (i := 71) rfl)) (hw _ (List.mem_of_getElem? (i := 72) rfl)) (by decide) [.ref b, .int (0 : Int32), .int (1 : Int32)] [] (k_c3_1 l wd b x0 P2.old V any i0) (le_ _ _ rfl) (W := 0) (le_ _ _ rfl) (by decide +kernel : parseMethodDescriptor "([CII)[B" = some ⟨[(.array .char), .int, .int], some (.array .byte)⟩) rfl rfl rfl (le_ _ _ rfl) (le_ _ _ rfl) (le_ _ _ rfl) (pc' := 39) rfl (fun T3 h3 v3 P3 Q3 => ?_)
  replace P3 := P3.more (k' := 2) (n' := 3) (le_ _ _ rfl) (le_ _ _ rfl)
  obtain ⟨b3, rfl, E3, V3⟩ := Q3
  refine blk C P3 [.astore 5, .aload_n 0, .aload 5, .iload_n 3] (by decide +kernel) (pc' := 45) (L' := [.val (.ref a), .val (.ref b), .val (.int (0 : Int32)), .val (.int (1 : Int32)), .val (.null), .val (.ref b3)]) (S' := [.int (1 : Int32), .ref b3, .ref a]) rfl ?_
  refine c_static C P3 (idx := 47) (y := (⟨"java/lang/StringUTF16", "coderFromArrayLen", "([BI)B"⟩ : MethodName)) (ybytes := jdk_52_method_15_code) (ymax := 2) (yret := (some .byte)) (yrm := ({ frames := 0, cells := 0, slots := 0, locals := 0 } : Room)) (by decide +kernel) (hw _ (List.mem_of_getElem? (i := 95) rfl)) (hw _ (List.mem_of_getElem? (i := 96) rfl)) (hw _ (List.mem_of_getElem? (i := 71) rfl)) (hw _ (List.mem_of_getElem? (i := 97) rfl)) (by decide) [.ref b3, .int (1 : Int32)] [.ref a] (k_cl1 l wd b3 x0 P3.old V3) (le_ _ _ rfl) (W := 1) (le_ _ _ rfl) (by decide +kernel : parseMethodDescriptor "([BI)B" = some ⟨[(.array .byte), .int], some .byte⟩) rfl rfl rfl (le_ _ _ rfl) (le_ _ _ rfl) (le_ _ _ rfl) (pc' := 48) rfl (fun T4 h4 v4 P4 Q4 => ?_)
  replace P4 := P4.more (k' := 2) (n' := 3) (le_ _ _ rfl) (le_ _ _ rfl)
  obtain ⟨rfl, rfl⟩ := Q4
  refine s_putS C P4 (idx := 15) (by decide +kernel) (hw _ (List.mem_of_getElem? (i := 30) rfl)) B.1 ((B.2.2 (Or.inr (hw _ (List.mem_of_getElem? (i := 26) rfl))) (ty := .byte) (by decide)).ext E3) (B.2.1.ext E3) ((B.2.2 (Or.inr (hw _ (List.mem_of_getElem? (i := 25) rfl))) (ty := (.array .byte)) (by decide)).ext E3) (hw _ (List.mem_of_getElem? (i := 26) rfl)) rfl (hw _ (List.mem_of_getElem? (i := 7) rfl)) (ty := .byte) (by decide) rfl rfl (pc' := 51) rfl (fun T5 h5 P5 W5 => ?_)
  have G6 := (B.2.1.ext E3).wr W5
  have G7 := ((B.2.2 (Or.inr (hw _ (List.mem_of_getElem? (i := 26) rfl))) (ty := .byte) (by decide)).ext E3).same W5
  have G8 := ((B.2.2 (Or.inr (hw _ (List.mem_of_getElem? (i := 25) rfl))) (ty := (.array .byte)) (by decide)).ext E3).other W5 (Or.inr (slot_ne (C := "java/lang/String") (Or.inr (hw _ (List.mem_of_getElem? (i := 25) rfl))) (Or.inr (hw _ (List.mem_of_getElem? (i := 26) rfl))) (by decide) (t := (.array .byte)) (by decide) (t' := .byte) (by decide)))
  have G9 := Bys.wr V3 W5 (B.2.1.ext E3) (hw _ (List.mem_of_getElem? (i := 7) rfl))
  refine blk C P5 [.aload_n 0, .aload 5] (by decide +kernel) (pc' := 54) (L' := [.val (.ref a), .val (.ref b), .val (.int (0 : Int32)), .val (.int (1 : Int32)), .val (.null), .val (.ref b3)]) (S' := [.ref b3, .ref a]) rfl ?_
  refine s_putS C P5 (idx := 9) (by decide +kernel) (hw _ (List.mem_of_getElem? (i := 29) rfl)) B.1 G8 G6 G8 (hw _ (List.mem_of_getElem? (i := 25) rfl)) rfl (hw _ (List.mem_of_getElem? (i := 7) rfl)) (ty := (.array .byte)) (by decide) rfl rfl (pc' := 57) rfl (fun T10 h10 P10 W10 => ?_)
  have G11 := G6.wr W10
  have G12 := G7.other W10 (Or.inr (slot_ne (C := "java/lang/String") (Or.inr (hw _ (List.mem_of_getElem? (i := 26) rfl))) (Or.inr (hw _ (List.mem_of_getElem? (i := 25) rfl))) (by decide) (t := .byte) (by decide) (t' := (.array .byte)) (by decide)))
  have G13 := G8.same W10
  have G14 := Bys.wr G9 W10 G6 (hw _ (List.mem_of_getElem? (i := 7) rfl))
  exact r_void C P10 (by decide +kernel) (le_ _ _ rfl) (le_ _ _ rfl) ⟨rfl, ⟨((((Keep.refl h [a]).ext E3).wr W5 (Or.inl (List.mem_singleton.mpr rfl))).wr W10 (Or.inl (List.mem_singleton.mpr rfl))), G11, G12, _, G13, G14⟩⟩
theorem k_i1_1_ef (m : MethodId) (a b : Addr) (x0 : Int32) : entryFrame m #[.ref a, .ref b] 2 = fr m 0 [.val (.ref a), .val (.ref b)] [] := by first | (simp [entryFrame, mkF, argsToLocals, Value.category]; done) | rfl
set_option maxRecDepth 65536 in
set_option maxHeartbeats 4000000 in
theorem k_i1_1 (l : Launch) {Z : State} {a0 : Array Value} {n0 : Nat} {h : Heap} {z : Int32} {fm : Value} (wd : Wd Z a0 z fm) (a b : Addr) (x0 : Int32)  (O : Old Z n0 h) (B : Blk Z a0 n0 h a sST) (V : Chs Z n0 h b [x0]) (any : (255 : Int32) < x0) (i0 : c16 x0 = x0) :
    Con l Z consts_1 n0 [] (⟨"java/lang/String", "<init>", "([C)V"⟩ : MethodName) jdk_42_method_3_code 2 none ({ frames := 5, cells := 2, slots := 3, locals := 74 } : Room) #[.ref a, .ref b] h (Ret0 fun h' => Keep h h' [a] ∧ Str16 Z n0 h' a [x0]) := by
  obtain ⟨hw, hEL, Sz, hz, SA, SH, SL, SF, hfm⟩ := id wd
  refine Con.intro (plainFor_of_name (by first | (simp [plainName, overriddenIn]; done) | decide +kernel)) O hEL ?_
  intro p e s m below meth c T C hs P
  have C : Ctx Z a0 consts_1 p s m meth c "java/lang/String" "<init>" jdk_42_method_3_code 2 none := C
  refine Run.cast (k_i1_1_ef m a b x0) ?_
  refine blk C P [.aload_n 0, .aload_n 1, .iconst 0, .aload_n 1] (by decide +kernel) (pc' := 4) (L' := [.val (.ref a), .val (.ref b)]) (S' := [.ref b, .int (0 : Int32), .ref b, .ref a]) rfl ?_
  refine s_alenC C P 1 (by decide +kernel) V rfl (pc' := 5) rfl ?_
  refine blk C P [.aconst_null] (by decide +kernel) (pc' := 6) (L' := [.val (.ref a), .val (.ref b)]) (S' := [.null, .int (1 : Int32), .int (0 : Int32), .ref b, .ref a]) rfl ?_
  refine c_special C P (idx := 27) (y := (⟨"java/lang/String", "<init>", "([CIILjava/lang/Void;)V"⟩ : MethodName)) (ybytes := jdk_42_method_149_code) (ymax := 6) (yrm := ({ frames := 4, cells := 2, slots := 3, locals := 57 } : Room)) rfl (by decide +kernel) (hw _ (List.mem_of_getElem? (i := 16) rfl)) (hw _ (List.mem_of_getElem? (i := 17) rfl)) (hw _ (List.mem_of_getElem? (i := 8) rfl)) (hw _ (List.mem_of_getElem? (i := 19) rfl)) (by decide) [.ref b, .int (0 : Int32), .int (1 : Int32), .null] [] (k_i4_1 l wd a b x0 P.old B V any i0) (le_ _ _ rfl) (W := 0) (le_ _ _ rfl) (by decide +kernel : parseMethodDescriptor "([CIILjava/lang/Void;)V" = some ⟨[(.array .char), .int, .int, (.object "java/lang/Void")], none⟩) rfl rfl rfl (le_ _ _ rfl) (le_ _ _ rfl) (le_ _ _ rfl) (pc' := 9) rfl (fun T1 h1 P1 Q1 => ?_)
  replace P1 := P1.more (k' := 2) (n' := 3) (le_ _ _ rfl) (le_ _ _ rfl)
  obtain ⟨K1, S1⟩ := Q1
  exact r_void C P1 (by decide +kernel) (le_ _ _ rfl) (le_ _ _ rfl) ⟨rfl, ⟨K1, S1⟩⟩
theorem k_mn1_ef (m : MethodId)  : entryFrame m #[.int (1 : Int32), .int (1 : Int32)] 2 = fr m 0 [.val (.int (1 : Int32)), .val (.int (1 : Int32))] [] := by first | (simp [entryFrame, mkF, argsToLocals, Value.category]; done) | rfl
set_option maxRecDepth 65536 in
set_option maxHeartbeats 4000000 in
theorem k_mn1 (l : Launch) {Z : State} {a0 : Array Value} {n0 : Nat} {h : Heap} {z : Int32} {fm : Value} (wd : Wd Z a0 z fm)   (O : Old Z n0 h)  :
    Con l Z consts_1 n0 [] (⟨"java/lang/Math", "min", "(II)I"⟩ : MethodName) jdk_29_method_69_code 2 (some .int) ({ frames := 0, cells := 0, slots := 0, locals := 0 } : Room) #[.int (1 : Int32), .int (1 : Int32)] h (Ret1 fun v h' => v = .int 1 ∧ h = h') := by
  obtain ⟨hw, hEL, Sz, hz, SA, SH, SL, SF, hfm⟩ := id wd
  refine Con.intro (by decide +kernel) O hEL ?_
  intro p e s m below meth c T C hs P
  have C : Ctx Z a0 consts_1 p s m meth c "java/lang/Math" "min" jdk_29_method_69_code 2 (some .int) := C
  refine Run.cast (k_mn1_ef m) ?_
  refine blk C P [.iload_n 0, .iload_n 1] (by decide +kernel) (pc' := 2) (L' := [.val (.int (1 : Int32)), .val (.int (1 : Int32))]) (S' := [.int (1 : Int32), .int (1 : Int32)]) rfl ?_
  refine b_cmN C P (cd := .gt) (o := 7) (by decide +kernel) (pc' := 5) rfl (by decide : ¬ (1 : Int32) < (1 : Int32)) ?_
  refine blk C P [.iload_n 0] (by decide +kernel) (pc' := 6) (L' := [.val (.int (1 : Int32)), .val (.int (1 : Int32))]) (S' := [.int (1 : Int32)]) rfl ?_
  refine b_goto C P (o := 4) (by decide +kernel) (pc' := 10) (by decide) ?_
  exact r_int C P (ty := .int) (by simp) rfl (by decide +kernel) (le_ _ _ rfl) (le_ _ _ rfl) ⟨_, rfl, ⟨rfl, rfl⟩⟩
theorem k_ln1_ef (m : MethodId) (t : Addr) (x0 : Int32) : entryFrame m #[.ref t] 1 = fr m 0 [.val (.ref t)] [] := by first | (simp [entryFrame, mkF, argsToLocals, Value.category]; done) | rfl
set_option maxRecDepth 65536 in
set_option maxHeartbeats 4000000 in
theorem k_ln1 (l : Launch) {Z : State} {a0 : Array Value} {n0 : Nat} {h : Heap} {z : Int32} {fm : Value} (wd : Wd Z a0 z fm) (t : Addr) (x0 : Int32)  (O : Old Z n0 h) (B : Bys Z n0 h t (wide [x0])) :
    Con l Z consts_1 n0 [] (⟨"java/lang/StringUTF16", "length", "([B)I"⟩ : MethodName) jdk_52_method_6_code 1 (some .int) ({ frames := 0, cells := 0, slots := 0, locals := 0 } : Room) #[.ref t] h (Ret1 fun v h' => v = .int 1 ∧ h = h') := by
  obtain ⟨hw, hEL, Sz, hz, SA, SH, SL, SF, hfm⟩ := id wd
  refine Con.intro (plainFor_of_name (by first | (simp [plainName, overriddenIn]; done) | decide +kernel)) O hEL ?_
  intro p e s m below meth c T C hs P
  have C : Ctx Z a0 consts_1 p s m meth c "java/lang/StringUTF16" "length" jdk_52_method_6_code 1 (some .int) := C
  refine Run.cast (k_ln1_ef m t x0) ?_
  refine blk C P [.aload_n 0] (by decide +kernel) (pc' := 1) (L' := [.val (.ref t)]) (S' := [.ref t]) rfl ?_
  refine s_alenB C P 2 (by decide +kernel) B rfl (pc' := 2) rfl ?_
  refine blk C P [.iconst 1, .ishr] (by decide +kernel) (pc' := 4) (L' := [.val (.ref t)]) (S' := [.int (1 : Int32)]) rfl ?_
  exact r_int C P (ty := .int) (by simp) rfl (by decide +kernel) (le_ _ _ rfl) (le_ _ _ rfl) ⟨_, rfl, ⟨rfl, rfl⟩⟩
theorem k_cf1_ef (m : MethodId)  {fm : Value} (hfm : fm.isRef = true) : entryFrame m #[.int (0 : Int32), .int (1 : Int32), .int (1 : Int32), fm] 4 = fr m 0 [.val (.int (0 : Int32)), .val (.int (1 : Int32)), .val (.int (1 : Int32)), .val (fm)] [] := by rcases ref_cases hfm with rfl | ⟨q, rfl⟩ <;> first | (simp [entryFrame, mkF, argsToLocals, Value.category]; done) | rfl
set_option maxRecDepth 65536 in
set_option maxHeartbeats 4000000 in
theorem k_cf1 (l : Launch) {Z : State} {a0 : Array Value} {n0 : Nat} {h : Heap} {z : Int32} {fm : Value} (wd : Wd Z a0 z fm)   (O : Old Z n0 h)  :
    Con l Z consts_1 n0 [] (⟨"jdk/internal/util/Preconditions", "checkFromToIndex", "(IIILjava/util/function/BiFunction;)I"⟩ : MethodName) jdk_41_method_12_code 4 (some .int) ({ frames := 0, cells := 0, slots := 0, locals := 0 } : Room) #[.int (0 : Int32), .int (1 : Int32), .int (1 : Int32), fm] h (Ret1 fun v h' => v = .int 0 ∧ h = h') := by
  obtain ⟨hw, hEL, Sz, hz, SA, SH, SL, SF, hfm⟩ := id wd
  refine Con.intro (plainFor_of_name (by first | (simp [plainName, overriddenIn]; done) | decide +kernel)) O hEL ?_
  intro p e s m below meth c T C hs P
  have C : Ctx Z a0 consts_1 p s m meth c "jdk/internal/util/Preconditions" "checkFromToIndex" jdk_41_method_12_code 4 (some .int) := C
  refine Run.cast (k_cf1_ef m hfm) ?_
  refine blk C P [.iload_n 0] (by decide +kernel) (pc' := 1) (L' := [.val (.int (0 : Int32)), .val (.int (1 : Int32)), .val (.int (1 : Int32)), .val (fm)]) (S' := [.int (0 : Int32)]) rfl ?_
  refine b_ifN C P (cd := .lt) (o := 13) (by decide +kernel) (pc' := 4) rfl (by decide : ¬ (0 : Int32) < 0) ?_
  refine blk C P [.iload_n 0, .iload_n 1] (by decide +kernel) (pc' := 6) (L' := [.val (.int (0 : Int32)), .val (.int (1 : Int32)), .val (.int (1 : Int32)), .val (fm)]) (S' := [.int (1 : Int32), .int (0 : Int32)]) rfl ?_
  refine b_cmN C P (cd := .gt) (o := 8) (by decide +kernel) (pc' := 9) rfl (by decide : ¬ (1 : Int32) < (0 : Int32)) ?_
  refine blk C P [.iload_n 1, .iload_n 2] (by decide +kernel) (pc' := 11) (L' := [.val (.int (0 : Int32)), .val (.int (1 : Int32)), .val (.int (1 : Int32)), .val (fm)]) (S' := [.int (1 : Int32), .int (1 : Int32)]) rfl ?_
  refine b_cmY C P (cd := .le) (o := 11) (by decide +kernel) (pc' := 22) (by decide) (by decide : ¬ (1 : Int32) < (1 : Int32)) ?_
  refine blk C P [.iload_n 0] (by decide +kernel) (pc' := 23) (L' := [.val (.int (0 : Int32)), .val (.int (1 : Int32)), .val (.int (1 : Int32)), .val (fm)]) (S' := [.int (0 : Int32)]) rfl ?_
  exact r_int C P (ty := .int) (by simp) rfl (by decide +kernel) (le_ _ _ rfl) (le_ _ _ rfl) ⟨_, rfl, ⟨rfl, rfl⟩⟩
theorem k_sc1_ef (m : MethodId)  : entryFrame m #[.int (0 : Int32), .int (1 : Int32), .int (1 : Int32)] 3 = fr m 0 [.val (.int (0 : Int32)), .val (.int (1 : Int32)), .val (.int (1 : Int32))] [] := by first | (simp [entryFrame, mkF, argsToLocals, Value.category]; done) | rfl
set_option maxRecDepth 65536 in
set_option maxHeartbeats 4000000 in
theorem k_sc1 (l : Launch) {Z : State} {a0 : Array Value} {n0 : Nat} {h : Heap} {z : Int32} {fm : Value} (wd : Wd Z a0 z fm)   (O : Old Z n0 h)  :
    Con l Z consts_1 n0 [] (⟨"java/lang/String", "checkBoundsBeginEnd", "(III)V"⟩ : MethodName) jdk_42_method_158_code 3 none ({ frames := 1, cells := 0, slots := 0, locals := 15 } : Room) #[.int (0 : Int32), .int (1 : Int32), .int (1 : Int32)] h (Ret0 fun h' => h = h') := by
  obtain ⟨hw, hEL, Sz, hz, SA, SH, SL, SF, hfm⟩ := id wd
  refine Con.intro (plainFor_of_name (by first | (simp [plainName, overriddenIn]; done) | decide +kernel)) O hEL ?_
  intro p e s m below meth c T C hs P
  have C : Ctx Z a0 consts_1 p s m meth c "java/lang/String" "checkBoundsBeginEnd" jdk_42_method_158_code 3 none := C
  refine Run.cast (k_sc1_ef m) ?_
  refine blk C P [.iload_n 0, .iload_n 1, .iload_n 2] (by decide +kernel) (pc' := 3) (L' := [.val (.int (0 : Int32)), .val (.int (1 : Int32)), .val (.int (1 : Int32))]) (S' := [.int (1 : Int32), .int (1 : Int32), .int (0 : Int32)]) rfl ?_
  refine s_gets C P (idx := 1053) (by decide +kernel) (hw _ (List.mem_of_getElem? (i := 121) rfl)) SF (pc' := 6) rfl (fun T1 P1 => ?_)
  refine c_static C P1 (idx := 1062) (y := (⟨"jdk/internal/util/Preconditions", "checkFromToIndex", "(IIILjava/util/function/BiFunction;)I"⟩ : MethodName)) (ybytes := jdk_41_method_12_code) (ymax := 4) (yret := (some .int)) (yrm := ({ frames := 0, cells := 0, slots := 0, locals := 0 } : Room)) (by decide +kernel) (hw _ (List.mem_of_getElem? (i := 123) rfl)) (hw _ (List.mem_of_getElem? (i := 124) rfl)) (hw _ (List.mem_of_getElem? (i := 122) rfl)) (hw _ (List.mem_of_getElem? (i := 125) rfl)) (by decide) [.int (0 : Int32), .int (1 : Int32), .int (1 : Int32), fm] [] (k_cf1 l wd  P1.old ) (le_ _ _ rfl) (W := 0) (le_ _ _ rfl) (by decide +kernel : parseMethodDescriptor "(IIILjava/util/function/BiFunction;)I" = some ⟨[.int, .int, .int, (.object "java/util/function/BiFunction")], some .int⟩) rfl rfl rfl (le_ _ _ rfl) (le_ _ _ rfl) (le_ _ _ rfl) (pc' := 9) rfl (fun T2 h2 v2 P2 Q2 => ?_)
  replace P2 := P2.more (k' := 0) (n' := 0) (le_ _ _ rfl) (le_ _ _ rfl)
  obtain ⟨rfl, rfl⟩ := Q2
  refine blk C P2 [.pop] (by decide +kernel) (pc' := 10) (L' := [.val (.int (0 : Int32)), .val (.int (1 : Int32)), .val (.int (1 : Int32))]) (S' := []) rfl ?_
  exact r_void C P2 (by decide +kernel) (le_ _ _ rfl) (le_ _ _ rfl) ⟨rfl, rfl⟩
theorem k_cb1_ef (m : MethodId) (t : Addr) (x0 : Int32) : entryFrame m #[.int (0 : Int32), .int (1 : Int32), .ref t] 3 = fr m 0 [.val (.int (0 : Int32)), .val (.int (1 : Int32)), .val (.ref t)] [] := by first | (simp [entryFrame, mkF, argsToLocals, Value.category]; done) | rfl
set_option maxRecDepth 65536 in
set_option maxHeartbeats 4000000 in
theorem k_cb1 (l : Launch) {Z : State} {a0 : Array Value} {n0 : Nat} {h : Heap} {z : Int32} {fm : Value} (wd : Wd Z a0 z fm) (t : Addr) (x0 : Int32)  (O : Old Z n0 h) (B : Bys Z n0 h t (wide [x0])) :
    Con l Z consts_1 n0 [] (⟨"java/lang/StringUTF16", "checkBoundsBeginEnd", "(II[B)V"⟩ : MethodName) jdk_52_method_93_code 3 none ({ frames := 2, cells := 0, slots := 0, locals := 29 } : Room) #[.int (0 : Int32), .int (1 : Int32), .ref t] h (Ret0 fun h' => h = h') := by
  obtain ⟨hw, hEL, Sz, hz, SA, SH, SL, SF, hfm⟩ := id wd
  refine Con.intro (plainFor_of_name (by first | (simp [plainName, overriddenIn]; done) | decide +kernel)) O hEL ?_
  intro p e s m below meth c T C hs P
  have C : Ctx Z a0 consts_1 p s m meth c "java/lang/StringUTF16" "checkBoundsBeginEnd" jdk_52_method_93_code 3 none := C
  refine Run.cast (k_cb1_ef m t x0) ?_
  refine blk C P [.iload_n 0, .iload_n 1, .aload_n 2] (by decide +kernel) (pc' := 3) (L' := [.val (.int (0 : Int32)), .val (.int (1 : Int32)), .val (.ref t)]) (S' := [.ref t, .int (1 : Int32), .int (0 : Int32)]) rfl ?_
  refine c_static C P (idx := 48) (y := (⟨"java/lang/StringUTF16", "length", "([B)I"⟩ : MethodName)) (ybytes := jdk_52_method_6_code) (ymax := 1) (yret := (some .int)) (yrm := ({ frames := 0, cells := 0, slots := 0, locals := 0 } : Room)) (by decide +kernel) (hw _ (List.mem_of_getElem? (i := 115) rfl)) (hw _ (List.mem_of_getElem? (i := 116) rfl)) (hw _ (List.mem_of_getElem? (i := 71) rfl)) (hw _ (List.mem_of_getElem? (i := 117) rfl)) (by decide) [.ref t] [.int (1 : Int32), .int (0 : Int32)] (k_ln1 l wd t x0 P.old B) (le_ _ _ rfl) (W := 2) (le_ _ _ rfl) (by decide +kernel : parseMethodDescriptor "([B)I" = some ⟨[(.array .byte)], some .int⟩) rfl rfl rfl (le_ _ _ rfl) (le_ _ _ rfl) (le_ _ _ rfl) (pc' := 6) rfl (fun T1 h1 v1 P1 Q1 => ?_)
  replace P1 := P1.more (k' := 0) (n' := 0) (le_ _ _ rfl) (le_ _ _ rfl)
  obtain ⟨rfl, rfl⟩ := Q1
  refine c_static0 C P1 (idx := 241) (y := (⟨"java/lang/String", "checkBoundsBeginEnd", "(III)V"⟩ : MethodName)) (ybytes := jdk_42_method_158_code) (ymax := 3) (yrm := ({ frames := 1, cells := 0, slots := 0, locals := 15 } : Room)) (by decide +kernel) (hw _ (List.mem_of_getElem? (i := 118) rfl)) (hw _ (List.mem_of_getElem? (i := 119) rfl)) (hw _ (List.mem_of_getElem? (i := 8) rfl)) (hw _ (List.mem_of_getElem? (i := 120) rfl)) (by decide) [.int (0 : Int32), .int (1 : Int32), .int (1 : Int32)] [] (k_sc1 l wd  P1.old ) (le_ _ _ rfl) (W := 0) (le_ _ _ rfl) (by decide +kernel : parseMethodDescriptor "(III)V" = some ⟨[.int, .int, .int], none⟩) rfl rfl rfl (le_ _ _ rfl) (le_ _ _ rfl) (le_ _ _ rfl) (pc' := 9) rfl (fun T2 h2 P2 Q2 => ?_)
  replace P2 := P2.more (k' := 0) (n' := 0) (le_ _ _ rfl) (le_ _ _ rfl)
  obtain rfl := Q2
  exact r_void C P2 (by decide +kernel) (le_ _ _ rfl) (le_ _ _ rfl) ⟨rfl, rfl⟩
theorem k_iu1_ef (m : MethodId) (t : Addr) (x0 : Int32) : entryFrame m #[.ref t, .int (65533 : Int32), .int (0 : Int32), .int (1 : Int32)] 5 = fr m 0 [.val (.ref t), .val (.int (65533 : Int32)), .val (.int (0 : Int32)), .val (.int (1 : Int32)), .unset] [] := by first | (simp [entryFrame, mkF, argsToLocals, Value.category]; done) | rfl
set_option maxRecDepth 65536 in
set_option maxHeartbeats 4000000 in
theorem k_iu1 (l : Launch) {Z : State} {a0 : Array Value} {n0 : Nat} {h : Heap} {z : Int32} {fm : Value} (wd : Wd Z a0 z fm) (t : Addr) (x0 : Int32)  (O : Old Z n0 h) (B : Bys Z n0 h t (wide [x0])) (i0 : c16 x0 = x0) :
    Con l Z consts_1 n0 [] (⟨"java/lang/StringUTF16", "indexOfCharUnsafe", "([BIII)I"⟩ : MethodName) jdk_52_method_48_code 5 (some .int) ({ frames := 1, cells := 0, slots := 0, locals := 13 } : Room) #[.ref t, .int (65533 : Int32), .int (0 : Int32), .int (1 : Int32)] h (Ret1 fun v h' => ∃ w, v = .int w ∧ h = h' ∧ ((¬ w < 0 ∧ Lost [x0]) ∨ (w < 0 ∧ ¬ Lost [x0]))) := by
  obtain ⟨hw, hEL, Sz, hz, SA, SH, SL, SF, hfm⟩ := id wd
  refine Con.intro (plainFor_of_name (by first | (simp [plainName, overriddenIn]; done) | decide +kernel)) O hEL ?_
  intro p e s m below meth c T C hs P
  have C : Ctx Z a0 consts_1 p s m meth c "java/lang/StringUTF16" "indexOfCharUnsafe" jdk_52_method_48_code 5 (some .int) := C
  refine Run.cast (k_iu1_ef m t x0) ?_
  refine blk C P [.iload_n 2, .istore 4, .iload 4, .iload_n 3] (by decide +kernel) (pc' := 6) (L' := [.val (.ref t), .val (.int (65533 : Int32)), .val (.int (0 : Int32)), .val (.int (1 : Int32)), .val (.int (0 : Int32))]) (S' := [.int (1 : Int32), .int (0 : Int32)]) rfl ?_
  refine b_cmN C P (cd := .ge) (o := 22) (by decide +kernel) (pc' := 9) rfl (by decide : (0 : Int32) < (1 : Int32)) ?_
  refine blk C P [.aload_n 0, .iload 4] (by decide +kernel) (pc' := 12) (L' := [.val (.ref t), .val (.int (65533 : Int32)), .val (.int (0 : Int32)), .val (.int (1 : Int32)), .val (.int (0 : Int32))]) (S' := [.int (0 : Int32), .ref t]) rfl ?_
  refine c_static C P (idx := 71) (y := (⟨"java/lang/StringUTF16", "getChar", "([BI)C"⟩ : MethodName)) (ybytes := jdk_52_method_5_code) (ymax := 2) (yret := (some .char)) (yrm := ({ frames := 0, cells := 0, slots := 0, locals := 0 } : Room)) (by decide +kernel) (hw _ (List.mem_of_getElem? (i := 92) rfl)) (hw _ (List.mem_of_getElem? (i := 93) rfl)) (hw _ (List.mem_of_getElem? (i := 71) rfl)) (hw _ (List.mem_of_getElem? (i := 94) rfl)) (by decide) [.ref t, .int (0 : Int32)] [] (k_gc0 l wd t x0 P.old B rfl rfl i0) (le_ _ _ rfl) (W := 0) (le_ _ _ rfl) (by decide +kernel : parseMethodDescriptor "([BI)C" = some ⟨[(.array .byte), .int], some .char⟩) rfl rfl rfl (le_ _ _ rfl) (le_ _ _ rfl) (le_ _ _ rfl) (pc' := 15) rfl (fun T1 h1 v1 P1 Q1 => ?_)
  replace P1 := P1.more (k' := 0) (n' := 0) (le_ _ _ rfl) (le_ _ _ rfl)
  obtain ⟨rfl, rfl⟩ := Q1
  refine blk C P1 [.iload_n 1] (by decide +kernel) (pc' := 16) (L' := [.val (.ref t), .val (.int (65533 : Int32)), .val (.int (0 : Int32)), .val (.int (1 : Int32)), .val (.int (0 : Int32))]) (S' := [.int (65533 : Int32), .int x0]) rfl ?_
  refine b_cm C P1 (cd := .ne) (o := 6) (by decide +kernel) (pc' := 22) (by decide) (pn := 19) rfl (fun (q2 : ¬ x0 = (65533 : Int32)) => ?_) (fun (q2 : x0 = (65533 : Int32)) => ?_)
  · skip
    refine blk C P1 [.iinc 4 1] (by decide +kernel) (pc' := 25) (L' := [.val (.ref t), .val (.int (65533 : Int32)), .val (.int (0 : Int32)), .val (.int (1 : Int32)), .val (.int (1 : Int32))]) (S' := []) rfl ?_
    refine b_goto C P1 (o := -22) (by decide +kernel) (pc' := 3) (by decide) ?_
    refine blk C P1 [.iload 4, .iload_n 3] (by decide +kernel) (pc' := 6) (L' := [.val (.ref t), .val (.int (65533 : Int32)), .val (.int (0 : Int32)), .val (.int (1 : Int32)), .val (.int (1 : Int32))]) (S' := [.int (1 : Int32), .int (1 : Int32)]) rfl ?_
    refine b_cmY C P1 (cd := .ge) (o := 22) (by decide +kernel) (pc' := 28) (by decide) (by decide : ¬ (1 : Int32) < (1 : Int32)) ?_
    refine blk C P1 [.iconst (-1)] (by decide +kernel) (pc' := 29) (L' := [.val (.ref t), .val (.int (65533 : Int32)), .val (.int (0 : Int32)), .val (.int (1 : Int32)), .val (.int (1 : Int32))]) (S' := [.int (-1 : Int32)]) rfl ?_
    exact r_int C P1 (ty := .int) (by simp) rfl (by decide +kernel) (le_ _ _ rfl) (le_ _ _ rfl) ⟨_, rfl, ⟨_, rfl, rfl, Or.inr ⟨by decide, (lostN q2 lost0)⟩⟩⟩
  · skip
    refine blk C P1 [.iload 4] (by decide +kernel) (pc' := 21) (L' := [.val (.ref t), .val (.int (65533 : Int32)), .val (.int (0 : Int32)), .val (.int (1 : Int32)), .val (.int (0 : Int32))]) (S' := [.int (0 : Int32)]) rfl ?_
    exact r_int C P1 (ty := .int) (by simp) rfl (by decide +kernel) (le_ _ _ rfl) (le_ _ _ rfl) ⟨_, rfl, ⟨_, rfl, rfl, Or.inl ⟨by decide, (lostY q2)⟩⟩⟩
theorem k_ic1_ef (m : MethodId) (t : Addr) (x0 : Int32) : entryFrame m #[.ref t, .int (65533 : Int32), .int (0 : Int32), .int (1 : Int32)] 4 = fr m 0 [.val (.ref t), .val (.int (65533 : Int32)), .val (.int (0 : Int32)), .val (.int (1 : Int32))] [] := by first | (simp [entryFrame, mkF, argsToLocals, Value.category]; done) | rfl
set_option maxRecDepth 65536 in
set_option maxHeartbeats 4000000 in
theorem k_ic1 (l : Launch) {Z : State} {a0 : Array Value} {n0 : Nat} {h : Heap} {z : Int32} {fm : Value} (wd : Wd Z a0 z fm) (t : Addr) (x0 : Int32)  (O : Old Z n0 h) (B : Bys Z n0 h t (wide [x0])) (i0 : c16 x0 = x0) :
    Con l Z consts_1 n0 [] (⟨"java/lang/StringUTF16", "indexOfChar", "([BIII)I"⟩ : MethodName) jdk_52_method_47_code 4 (some .int) ({ frames := 3, cells := 0, slots := 0, locals := 43 } : Room) #[.ref t, .int (65533 : Int32), .int (0 : Int32), .int (1 : Int32)] h (Ret1 fun v h' => ∃ w, v = .int w ∧ h = h' ∧ ((¬ w < 0 ∧ Lost [x0]) ∨ (w < 0 ∧ ¬ Lost [x0]))) := by
  obtain ⟨hw, hEL, Sz, hz, SA, SH, SL, SF, hfm⟩ := id wd
  refine Con.intro (plainFor_of_name (by first | (simp [plainName, overriddenIn]; done) | decide +kernel)) O hEL ?_
  intro p e s m below meth c T C hs P
  have C : Ctx Z a0 consts_1 p s m meth c "java/lang/StringUTF16" "indexOfChar" jdk_52_method_47_code 4 (some .int) := C
  refine Run.cast (k_ic1_ef m t x0) ?_
  refine blk C P [.iload_n 2, .iload_n 3, .aload_n 0] (by decide +kernel) (pc' := 3) (L' := [.val (.ref t), .val (.int (65533 : Int32)), .val (.int (0 : Int32)), .val (.int (1 : Int32))]) (S' := [.ref t, .int (1 : Int32), .int (0 : Int32)]) rfl ?_
  refine c_static0 C P (idx := 96) (y := (⟨"java/lang/StringUTF16", "checkBoundsBeginEnd", "(II[B)V"⟩ : MethodName)) (ybytes := jdk_52_method_93_code) (ymax := 3) (yrm := ({ frames := 2, cells := 0, slots := 0, locals := 29 } : Room)) (by decide +kernel) (hw _ (List.mem_of_getElem? (i := 112) rfl)) (hw _ (List.mem_of_getElem? (i := 113) rfl)) (hw _ (List.mem_of_getElem? (i := 71) rfl)) (hw _ (List.mem_of_getElem? (i := 114) rfl)) (by decide) [.int (0 : Int32), .int (1 : Int32), .ref t] [] (k_cb1 l wd t x0 P.old B) (le_ _ _ rfl) (W := 0) (le_ _ _ rfl) (by decide +kernel : parseMethodDescriptor "(II[B)V" = some ⟨[.int, .int, (.array .byte)], none⟩) rfl rfl rfl (le_ _ _ rfl) (le_ _ _ rfl) (le_ _ _ rfl) (pc' := 6) rfl (fun T1 h1 P1 Q1 => ?_)
  replace P1 := P1.more (k' := 0) (n' := 0) (le_ _ _ rfl) (le_ _ _ rfl)
  obtain rfl := Q1
  refine blk C P1 [.aload_n 0, .iload_n 1, .iload_n 2, .iload_n 3] (by decide +kernel) (pc' := 10) (L' := [.val (.ref t), .val (.int (65533 : Int32)), .val (.int (0 : Int32)), .val (.int (1 : Int32))]) (S' := [.int (1 : Int32), .int (0 : Int32), .int (65533 : Int32), .ref t]) rfl ?_
  refine c_static C P1 (idx := 244) (y := (⟨"java/lang/StringUTF16", "indexOfCharUnsafe", "([BIII)I"⟩ : MethodName)) (ybytes := jdk_52_method_48_code) (ymax := 5) (yret := (some .int)) (yrm := ({ frames := 1, cells := 0, slots := 0, locals := 13 } : Room)) (by decide +kernel) (hw _ (List.mem_of_getElem? (i := 126) rfl)) (hw _ (List.mem_of_getElem? (i := 127) rfl)) (hw _ (List.mem_of_getElem? (i := 71) rfl)) (hw _ (List.mem_of_getElem? (i := 128) rfl)) (by decide) [.ref t, .int (65533 : Int32), .int (0 : Int32), .int (1 : Int32)] [] (k_iu1 l wd t x0 P1.old B i0) (le_ _ _ rfl) (W := 0) (le_ _ _ rfl) (by decide +kernel : parseMethodDescriptor "([BIII)I" = some ⟨[(.array .byte), .int, .int, .int], some .int⟩) rfl rfl rfl (le_ _ _ rfl) (le_ _ _ rfl) (le_ _ _ rfl) (pc' := 13) rfl (fun T2 h2 v2 P2 Q2 => ?_)
  replace P2 := P2.more (k' := 0) (n' := 0) (le_ _ _ rfl) (le_ _ _ rfl)
  obtain ⟨w2, rfl, rfl, Q2⟩ := Q2
  exact r_int C P2 (ty := .int) (by simp) rfl (by decide +kernel) (le_ _ _ rfl) (le_ _ _ rfl) ⟨_, rfl, ⟨_, rfl, rfl, Q2⟩⟩
theorem k_io1_ef (m : MethodId) (t : Addr) (x0 : Int32) : entryFrame m #[.ref t, .int (65533 : Int32), .int (0 : Int32), .int (1 : Int32)] 4 = fr m 0 [.val (.ref t), .val (.int (65533 : Int32)), .val (.int (0 : Int32)), .val (.int (1 : Int32))] [] := by first | (simp [entryFrame, mkF, argsToLocals, Value.category]; done) | rfl
set_option maxRecDepth 65536 in
set_option maxHeartbeats 4000000 in
theorem k_io1 (l : Launch) {Z : State} {a0 : Array Value} {n0 : Nat} {h : Heap} {z : Int32} {fm : Value} (wd : Wd Z a0 z fm) (t : Addr) (x0 : Int32)  (O : Old Z n0 h) (B : Bys Z n0 h t (wide [x0])) (i0 : c16 x0 = x0) :
    Con l Z consts_1 n0 [] (⟨"java/lang/StringUTF16", "indexOf", "([BIII)I"⟩ : MethodName) jdk_52_method_40_code 4 (some .int) ({ frames := 4, cells := 0, slots := 0, locals := 58 } : Room) #[.ref t, .int (65533 : Int32), .int (0 : Int32), .int (1 : Int32)] h (Ret1 fun v h' => ∃ w, v = .int w ∧ h = h' ∧ ((¬ w < 0 ∧ Lost [x0]) ∨ (w < 0 ∧ ¬ Lost [x0]))) := by
  obtain ⟨hw, hEL, Sz, hz, SA, SH, SL, SF, hfm⟩ := id wd
  refine Con.intro (plainFor_of_name (by first | (simp [plainName, overriddenIn]; done) | decide +kernel)) O hEL ?_
  intro p e s m below meth c T C hs P
  have C : Ctx Z a0 consts_1 p s m meth c "java/lang/StringUTF16" "indexOf" jdk_52_method_40_code 4 (some .int) := C
  refine Run.cast (k_io1_ef m t x0) ?_
  refine blk C P [.iload_n 2, .iconst 0] (by decide +kernel) (pc' := 2) (L' := [.val (.ref t), .val (.int (65533 : Int32)), .val (.int (0 : Int32)), .val (.int (1 : Int32))]) (S' := [.int (0 : Int32), .int (0 : Int32)]) rfl ?_
  refine c_static C P (idx := 224) (y := (⟨"java/lang/Math", "max", "(II)I"⟩ : MethodName)) (ybytes := jdk_29_method_65_code) (ymax := 2) (yret := (some .int)) (yrm := ({ frames := 0, cells := 0, slots := 0, locals := 0 } : Room)) (by decide +kernel) (hw _ (List.mem_of_getElem? (i := 101) rfl)) (hw _ (List.mem_of_getElem? (i := 102) rfl)) (hw _ (List.mem_of_getElem? (i := 103) rfl)) (hw _ (List.mem_of_getElem? (i := 104) rfl)) (by decide) [.int (0 : Int32), .int (0 : Int32)] [] (k_mx l wd  P.old ) (le_ _ _ rfl) (W := 0) (le_ _ _ rfl) (by decide +kernel : parseMethodDescriptor "(II)I" = some ⟨[.int, .int], some .int⟩) rfl rfl rfl (le_ _ _ rfl) (le_ _ _ rfl) (le_ _ _ rfl) (pc' := 5) rfl (fun T1 h1 v1 P1 Q1 => ?_)
  replace P1 := P1.more (k' := 0) (n' := 0) (le_ _ _ rfl) (le_ _ _ rfl)
  obtain ⟨rfl, rfl⟩ := Q1
  refine blk C P1 [.istore_n 2, .iload_n 3, .aload_n 0] (by decide +kernel) (pc' := 8) (L' := [.val (.ref t), .val (.int (65533 : Int32)), .val (.int (0 : Int32)), .val (.int (1 : Int32))]) (S' := [.ref t, .int (1 : Int32)]) rfl ?_
  refine s_alenB C P1 2 (by decide +kernel) B rfl (pc' := 9) rfl ?_
  refine blk C P1 [.iconst 1, .ishr] (by decide +kernel) (pc' := 11) (L' := [.val (.ref t), .val (.int (65533 : Int32)), .val (.int (0 : Int32)), .val (.int (1 : Int32))]) (S' := [.int (1 : Int32), .int (1 : Int32)]) rfl ?_
  refine c_static C P1 (idx := 183) (y := (⟨"java/lang/Math", "min", "(II)I"⟩ : MethodName)) (ybytes := jdk_29_method_69_code) (ymax := 2) (yret := (some .int)) (yrm := ({ frames := 0, cells := 0, slots := 0, locals := 0 } : Room)) (by decide +kernel) (hw _ (List.mem_of_getElem? (i := 105) rfl)) (hw _ (List.mem_of_getElem? (i := 106) rfl)) (hw _ (List.mem_of_getElem? (i := 103) rfl)) (hw _ (List.mem_of_getElem? (i := 107) rfl)) (by decide) [.int (1 : Int32), .int (1 : Int32)] [] (k_mn1 l wd  P1.old ) (le_ _ _ rfl) (W := 0) (le_ _ _ rfl) (by decide +kernel : parseMethodDescriptor "(II)I" = some ⟨[.int, .int], some .int⟩) rfl rfl rfl (le_ _ _ rfl) (le_ _ _ rfl) (le_ _ _ rfl) (pc' := 14) rfl (fun T2 h2 v2 P2 Q2 => ?_)
  replace P2 := P2.more (k' := 0) (n' := 0) (le_ _ _ rfl) (le_ _ _ rfl)
  obtain ⟨rfl, rfl⟩ := Q2
  refine blk C P2 [.istore_n 3, .iload_n 2, .iload_n 3] (by decide +kernel) (pc' := 17) (L' := [.val (.ref t), .val (.int (65533 : Int32)), .val (.int (0 : Int32)), .val (.int (1 : Int32))]) (S' := [.int (1 : Int32), .int (0 : Int32)]) rfl ?_
  refine b_cmY C P2 (cd := .lt) (o := 5) (by decide +kernel) (pc' := 22) (by decide) (by decide : (0 : Int32) < (1 : Int32)) ?_
  refine blk C P2 [.iload_n 1] (by decide +kernel) (pc' := 23) (L' := [.val (.ref t), .val (.int (65533 : Int32)), .val (.int (0 : Int32)), .val (.int (1 : Int32))]) (S' := [.int (65533 : Int32)]) rfl ?_
  refine s_ldcI C P2 (idx := 227) (by decide +kernel) (hw _ (List.mem_of_getElem? (i := 108) rfl)) (pc' := 25) rfl ?_
  refine b_cmN C P2 (cd := .ge) (o := 11) (by decide +kernel) (pc' := 28) rfl (by decide : (65533 : Int32) < (65536 : Int32)) ?_
  refine blk C P2 [.aload_n 0, .iload_n 1, .iload_n 2, .iload_n 3] (by decide +kernel) (pc' := 32) (L' := [.val (.ref t), .val (.int (65533 : Int32)), .val (.int (0 : Int32)), .val (.int (1 : Int32))]) (S' := [.int (1 : Int32), .int (0 : Int32), .int (65533 : Int32), .ref t]) rfl ?_
  refine c_static C P2 (idx := 228) (y := (⟨"java/lang/StringUTF16", "indexOfChar", "([BIII)I"⟩ : MethodName)) (ybytes := jdk_52_method_47_code) (ymax := 4) (yret := (some .int)) (yrm := ({ frames := 3, cells := 0, slots := 0, locals := 43 } : Room)) (by decide +kernel) (hw _ (List.mem_of_getElem? (i := 109) rfl)) (hw _ (List.mem_of_getElem? (i := 110) rfl)) (hw _ (List.mem_of_getElem? (i := 71) rfl)) (hw _ (List.mem_of_getElem? (i := 111) rfl)) (by decide) [.ref t, .int (65533 : Int32), .int (0 : Int32), .int (1 : Int32)] [] (k_ic1 l wd t x0 P2.old B i0) (le_ _ _ rfl) (W := 0) (le_ _ _ rfl) (by decide +kernel : parseMethodDescriptor "([BIII)I" = some ⟨[(.array .byte), .int, .int, .int], some .int⟩) rfl rfl rfl (le_ _ _ rfl) (le_ _ _ rfl) (le_ _ _ rfl) (pc' := 35) rfl (fun T3 h3 v3 P3 Q3 => ?_)
  replace P3 := P3.more (k' := 0) (n' := 0) (le_ _ _ rfl) (le_ _ _ rfl)
  obtain ⟨w3, rfl, rfl, Q3⟩ := Q3
  exact r_int C P3 (ty := .int) (by simp) rfl (by decide +kernel) (le_ _ _ rfl) (le_ _ _ rfl) ⟨_, rfl, ⟨_, rfl, rfl, Q3⟩⟩
theorem k_sw1_ef (m : MethodId) (a : Addr) (x0 : Int32) : entryFrame m #[.ref a] 1 = fr m 0 [.val (.ref a)] [] := by first | (simp [entryFrame, mkF, argsToLocals, Value.category]; done) | rfl
set_option maxRecDepth 65536 in
set_option maxHeartbeats 4000000 in
theorem k_sw1 (l : Launch) {Z : State} {a0 : Array Value} {n0 : Nat} {h : Heap} {z : Int32} {fm : Value} (wd : Wd Z a0 z fm) (a : Addr) (x0 : Int32)  (O : Old Z n0 h) (S : Str16 Z n0 h a [x0]) :
    Con l Z consts_1 n0 [] (⟨"java/lang/String", "length", "()I"⟩ : MethodName) jdk_42_method_54_code 1 (some .int) ({ frames := 1, cells := 0, slots := 0, locals := 13 } : Room) #[.ref a] h (Ret1 fun v h' => v = .int 1 ∧ h = h') := by
  obtain ⟨hw, hEL, Sz, hz, SA, SH, SL, SF, hfm⟩ := id wd
  obtain ⟨S1, S2, t, S3, S4⟩ := id S
  refine Con.intro (plainFor_of_name (by first | (simp [plainName, overriddenIn]; done) | decide +kernel)) O hEL ?_
  intro p e s m below meth c T C hs P
  have C : Ctx Z a0 consts_1 p s m meth c "java/lang/String" "length" jdk_42_method_54_code 1 (some .int) := C
  refine Run.cast (k_sw1_ef m a x0) ?_
  refine blk C P [.aload_n 0] (by decide +kernel) (pc' := 1) (L' := [.val (.ref a)]) (S' := [.ref a]) rfl ?_
  refine s_getf C P (idx := 9) (by decide +kernel) (hw _ (List.mem_of_getElem? (i := 29) rfl)) S3 (pc' := 4) rfl (fun T1 P1 => ?_)
  refine s_alenB C P1 2 (by decide +kernel) S4 rfl (pc' := 5) rfl ?_
  refine blk C P1 [.aload_n 0] (by decide +kernel) (pc' := 6) (L' := [.val (.ref a)]) (S' := [.ref a, .int (2 : Int32)]) rfl ?_
  refine c_virtual C P1 (idx := 335) (y := (⟨"java/lang/String", "coder", "()B"⟩ : MethodName)) (K0 := "java/lang/String") (ybytes := jdk_42_method_152_code) (ymax := 1) (yret := (some .byte)) (yrm := ({ frames := 0, cells := 0, slots := 0, locals := 0 } : Room)) (by decide +kernel) (hw _ (List.mem_of_getElem? (i := 57) rfl)) (hw _ (List.mem_of_getElem? (i := 58) rfl)) (hw _ (List.mem_of_getElem? (i := 60) rfl)) (hw _ (List.mem_of_getElem? (i := 59) rfl)) (hw _ (List.mem_of_getElem? (i := 8) rfl)) (hw _ (List.mem_of_getElem? (i := 61) rfl)) (by decide) S.exa [] [.int (2 : Int32)] (k_co1 l wd a P1.old S2) (le_ _ _ rfl) (W := 1) (le_ _ _ rfl) (by decide +kernel : parseMethodDescriptor "()B" = some ⟨[], some .byte⟩) rfl rfl rfl (le_ _ _ rfl) (le_ _ _ rfl) (le_ _ _ rfl) (pc' := 9) rfl (fun T2 h2 v2 P2 Q2 => ?_)
  replace P2 := P2.more (k' := 0) (n' := 0) (le_ _ _ rfl) (le_ _ _ rfl)
  obtain ⟨rfl, rfl⟩ := Q2
  refine blk C P2 [.ishr] (by decide +kernel) (pc' := 10) (L' := [.val (.ref a)]) (S' := [.int (1 : Int32)]) rfl ?_
  exact r_int C P2 (ty := .int) (by simp) rfl (by decide +kernel) (le_ _ _ rfl) (le_ _ _ rfl) ⟨_, rfl, ⟨rfl, rfl⟩⟩
theorem k_iw1_ef (m : MethodId) (a : Addr) (x0 : Int32) : entryFrame m #[.ref a, .int (65533 : Int32), .int (0 : Int32)] 3 = fr m 0 [.val (.ref a), .val (.int (65533 : Int32)), .val (.int (0 : Int32))] [] := by first | (simp [entryFrame, mkF, argsToLocals, Value.category]; done) | rfl
set_option maxRecDepth 65536 in
set_option maxHeartbeats 4000000 in
theorem k_iw1 (l : Launch) {Z : State} {a0 : Array Value} {n0 : Nat} {h : Heap} {z : Int32} {fm : Value} (wd : Wd Z a0 z fm) (a : Addr) (x0 : Int32)  (O : Old Z n0 h) (S : Str16 Z n0 h a [x0]) (i0 : c16 x0 = x0) :
    Con l Z consts_1 n0 [] (⟨"java/lang/String", "indexOf", "(II)I"⟩ : MethodName) jdk_42_method_80_code 3 (some .int) ({ frames := 5, cells := 0, slots := 0, locals := 73 } : Room) #[.ref a, .int (65533 : Int32), .int (0 : Int32)] h (Ret1 fun v h' => ∃ w, v = .int w ∧ h = h' ∧ ((¬ w < 0 ∧ Lost [x0]) ∨ (w < 0 ∧ ¬ Lost [x0]))) := by
  obtain ⟨hw, hEL, Sz, hz, SA, SH, SL, SF, hfm⟩ := id wd
  obtain ⟨S1, S2, t, S3, S4⟩ := id S
  refine Con.intro (plainFor_of_name (by first | (simp [plainName, overriddenIn]; done) | decide +kernel)) O hEL ?_
  intro p e s m below meth c T C hs P
  have C : Ctx Z a0 consts_1 p s m meth c "java/lang/String" "indexOf" jdk_42_method_80_code 3 (some .int) := C
  refine Run.cast (k_iw1_ef m a x0) ?_
  refine blk C P [.aload_n 0] (by decide +kernel) (pc' := 1) (L' := [.val (.ref a), .val (.int (65533 : Int32)), .val (.int (0 : Int32))]) (S' := [.ref a]) rfl ?_
  refine c_virtual C P (idx := 492) (y := (⟨"java/lang/String", "isLatin1", "()Z"⟩ : MethodName)) (K0 := "java/lang/String") (ybytes := jdk_42_method_154_code) (ymax := 1) (yret := (some .boolean)) (yrm := ({ frames := 0, cells := 0, slots := 0, locals := 0 } : Room)) (by decide +kernel) (hw _ (List.mem_of_getElem? (i := 46) rfl)) (hw _ (List.mem_of_getElem? (i := 47) rfl)) (hw _ (List.mem_of_getElem? (i := 49) rfl)) (hw _ (List.mem_of_getElem? (i := 48) rfl)) (hw _ (List.mem_of_getElem? (i := 8) rfl)) (hw _ (List.mem_of_getElem? (i := 50) rfl)) (by decide) S.exa [] [] (k_il1 l wd a P.old S2) (le_ _ _ rfl) (W := 0) (le_ _ _ rfl) (by decide +kernel : parseMethodDescriptor "()Z" = some ⟨[], some .boolean⟩) rfl rfl rfl (le_ _ _ rfl) (le_ _ _ rfl) (le_ _ _ rfl) (pc' := 4) rfl (fun T1 h1 v1 P1 Q1 => ?_)
  replace P1 := P1.more (k' := 0) (n' := 0) (le_ _ _ rfl) (le_ _ _ rfl)
  obtain ⟨rfl, rfl⟩ := Q1
  refine b_ifY C P1 (cd := .eq) (o := 19) (by decide +kernel) (pc' := 23) (by decide) (by decide : (0 : Int32) = 0) ?_
  refine blk C P1 [.aload_n 0] (by decide +kernel) (pc' := 24) (L' := [.val (.ref a), .val (.int (65533 : Int32)), .val (.int (0 : Int32))]) (S' := [.ref a]) rfl ?_
  refine s_getf C P1 (idx := 9) (by decide +kernel) (hw _ (List.mem_of_getElem? (i := 29) rfl)) S3 (pc' := 27) rfl (fun T2 P2 => ?_)
  refine blk C P2 [.iload_n 1, .iload_n 2, .aload_n 0] (by decide +kernel) (pc' := 30) (L' := [.val (.ref a), .val (.int (65533 : Int32)), .val (.int (0 : Int32))]) (S' := [.ref a, .int (0 : Int32), .int (65533 : Int32), .ref t]) rfl ?_
  refine c_virtual C P2 (idx := 505) (y := (⟨"java/lang/String", "length", "()I"⟩ : MethodName)) (K0 := "java/lang/String") (ybytes := jdk_42_method_54_code) (ymax := 1) (yret := (some .int)) (yrm := ({ frames := 1, cells := 0, slots := 0, locals := 13 } : Room)) (by decide +kernel) (hw _ (List.mem_of_getElem? (i := 52) rfl)) (hw _ (List.mem_of_getElem? (i := 53) rfl)) (hw _ (List.mem_of_getElem? (i := 55) rfl)) (hw _ (List.mem_of_getElem? (i := 54) rfl)) (hw _ (List.mem_of_getElem? (i := 8) rfl)) (hw _ (List.mem_of_getElem? (i := 56) rfl)) (by decide) S.exa [] [.int (0 : Int32), .int (65533 : Int32), .ref t] (k_sw1 l wd a x0 P2.old S) (le_ _ _ rfl) (W := 3) (le_ _ _ rfl) (by decide +kernel : parseMethodDescriptor "()I" = some ⟨[], some .int⟩) rfl rfl rfl (le_ _ _ rfl) (le_ _ _ rfl) (le_ _ _ rfl) (pc' := 33) rfl (fun T3 h3 v3 P3 Q3 => ?_)
  replace P3 := P3.more (k' := 0) (n' := 0) (le_ _ _ rfl) (le_ _ _ rfl)
  obtain ⟨rfl, rfl⟩ := Q3
  refine c_static C P3 (idx := 640) (y := (⟨"java/lang/StringUTF16", "indexOf", "([BIII)I"⟩ : MethodName)) (ybytes := jdk_52_method_40_code) (ymax := 4) (yret := (some .int)) (yrm := ({ frames := 4, cells := 0, slots := 0, locals := 58 } : Room)) (by decide +kernel) (hw _ (List.mem_of_getElem? (i := 98) rfl)) (hw _ (List.mem_of_getElem? (i := 99) rfl)) (hw _ (List.mem_of_getElem? (i := 71) rfl)) (hw _ (List.mem_of_getElem? (i := 100) rfl)) (by decide) [.ref t, .int (65533 : Int32), .int (0 : Int32), .int (1 : Int32)] [] (k_io1 l wd t x0 P3.old S4 i0) (le_ _ _ rfl) (W := 0) (le_ _ _ rfl) (by decide +kernel : parseMethodDescriptor "([BIII)I" = some ⟨[(.array .byte), .int, .int, .int], some .int⟩) rfl rfl rfl (le_ _ _ rfl) (le_ _ _ rfl) (le_ _ _ rfl) (pc' := 36) rfl (fun T4 h4 v4 P4 Q4 => ?_)
  replace P4 := P4.more (k' := 0) (n' := 0) (le_ _ _ rfl) (le_ _ _ rfl)
  obtain ⟨w4, rfl, rfl, Q4⟩ := Q4
  exact r_int C P4 (ty := .int) (by simp) rfl (by decide +kernel) (le_ _ _ rfl) (le_ _ _ rfl) ⟨_, rfl, ⟨_, rfl, rfl, Q4⟩⟩
theorem k_jw1_ef (m : MethodId) (a : Addr) (x0 : Int32) : entryFrame m #[.ref a, .int (65533 : Int32)] 2 = fr m 0 [.val (.ref a), .val (.int (65533 : Int32))] [] := by first | (simp [entryFrame, mkF, argsToLocals, Value.category]; done) | rfl
set_option maxRecDepth 65536 in
set_option maxHeartbeats 4000000 in
theorem k_jw1 (l : Launch) {Z : State} {a0 : Array Value} {n0 : Nat} {h : Heap} {z : Int32} {fm : Value} (wd : Wd Z a0 z fm) (a : Addr) (x0 : Int32)  (O : Old Z n0 h) (S : Str16 Z n0 h a [x0]) (i0 : c16 x0 = x0) :
    Con l Z consts_1 n0 [] (⟨"java/lang/String", "indexOf", "(I)I"⟩ : MethodName) jdk_42_method_79_code 2 (some .int) ({ frames := 6, cells := 0, slots := 0, locals := 87 } : Room) #[.ref a, .int (65533 : Int32)] h (Ret1 fun v h' => ∃ w, v = .int w ∧ h = h' ∧ ((¬ w < 0 ∧ Lost [x0]) ∨ (w < 0 ∧ ¬ Lost [x0]))) := by
  obtain ⟨hw, hEL, Sz, hz, SA, SH, SL, SF, hfm⟩ := id wd
  obtain ⟨S1, S2, t, S3, S4⟩ := id S
  refine Con.intro (plainFor_of_name (by first | (simp [plainName, overriddenIn]; done) | decide +kernel)) O hEL ?_
  intro p e s m below meth c T C hs P
  have C : Ctx Z a0 consts_1 p s m meth c "java/lang/String" "indexOf" jdk_42_method_79_code 2 (some .int) := C
  refine Run.cast (k_jw1_ef m a x0) ?_
  refine blk C P [.aload_n 0, .iload_n 1, .iconst 0] (by decide +kernel) (pc' := 3) (L' := [.val (.ref a), .val (.int (65533 : Int32))]) (S' := [.int (0 : Int32), .int (65533 : Int32), .ref a]) rfl ?_
  refine c_virtual C P (idx := 633) (y := (⟨"java/lang/String", "indexOf", "(II)I"⟩ : MethodName)) (K0 := "java/lang/String") (ybytes := jdk_42_method_80_code) (ymax := 3) (yret := (some .int)) (yrm := ({ frames := 5, cells := 0, slots := 0, locals := 73 } : Room)) (by decide +kernel) (hw _ (List.mem_of_getElem? (i := 41) rfl)) (hw _ (List.mem_of_getElem? (i := 42) rfl)) (hw _ (List.mem_of_getElem? (i := 44) rfl)) (hw _ (List.mem_of_getElem? (i := 43) rfl)) (hw _ (List.mem_of_getElem? (i := 8) rfl)) (hw _ (List.mem_of_getElem? (i := 45) rfl)) (by decide) S.exa [.int (65533 : Int32), .int (0 : Int32)] [] (k_iw1 l wd a x0 P.old S i0) (le_ _ _ rfl) (W := 0) (le_ _ _ rfl) (by decide +kernel : parseMethodDescriptor "(II)I" = some ⟨[.int, .int], some .int⟩) rfl rfl rfl (le_ _ _ rfl) (le_ _ _ rfl) (le_ _ _ rfl) (pc' := 6) rfl (fun T1 h1 v1 P1 Q1 => ?_)
  replace P1 := P1.more (k' := 0) (n' := 0) (le_ _ _ rfl) (le_ _ _ rfl)
  obtain ⟨w1, rfl, rfl, Q1⟩ := Q1
  exact r_int C P1 (ty := .int) (by simp) rfl (by decide +kernel) (le_ _ _ rfl) (le_ _ _ rfl) ⟨_, rfl, ⟨_, rfl, rfl, Q1⟩⟩
theorem k_lw1_ef (m : MethodId) (a : Addr) (x0 : Int32) : entryFrame m #[.ref a] 1 = fr m 0 [.val (.ref a)] [] := by first | (simp [entryFrame, mkF, argsToLocals, Value.category]; done) | rfl
set_option maxRecDepth 65536 in
set_option maxHeartbeats 4000000 in
theorem k_lw1 (l : Launch) {Z : State} {a0 : Array Value} {n0 : Nat} {h : Heap} {z : Int32} {fm : Value} (wd : Wd Z a0 z fm) (a : Addr) (x0 : Int32)  (O : Old Z n0 h) (S : Str16 Z n0 h a [x0]) (i0 : c16 x0 = x0) :
    Con l Z consts_1 n0 [] (⟨"com/example/archive_packager/archivepackager/LocaleCharset", "lostBytes", "(Ljava/lang/String;)Z"⟩ : MethodName) prog_3_method_6_code 1 (some .boolean) ({ frames := 7, cells := 0, slots := 0, locals := 100 } : Room) #[.ref a] h (Ret1 fun v h' => h = h' ∧ ((v = .int 1 ∧ Lost [x0]) ∨ (v = .int 0 ∧ ¬ Lost [x0]))) := by
  obtain ⟨hw, hEL, Sz, hz, SA, SH, SL, SF, hfm⟩ := id wd
  obtain ⟨S1, S2, t, S3, S4⟩ := id S
  refine Con.intro (plainFor_of_name (by first | (simp [plainName, overriddenIn]; done) | decide +kernel)) O hEL ?_
  intro p e s m below meth c T C hs P
  have C : Ctx Z a0 consts_1 p s m meth c "com/example/archive_packager/archivepackager/LocaleCharset" "lostBytes" prog_3_method_6_code 1 (some .boolean) := C
  refine Run.cast (k_lw1_ef m a x0) ?_
  refine blk C P [.aload_n 0] (by decide +kernel) (pc' := 1) (L' := [.val (.ref a)]) (S' := [.ref a]) rfl ?_
  refine s_ldcI C P (idx := 43) (by decide +kernel) (hw _ (List.mem_of_getElem? (i := 35) rfl)) (pc' := 3) rfl ?_
  refine c_virtual C P (idx := 44) (y := (⟨"java/lang/String", "indexOf", "(I)I"⟩ : MethodName)) (K0 := "java/lang/String") (ybytes := jdk_42_method_79_code) (ymax := 2) (yret := (some .int)) (yrm := ({ frames := 6, cells := 0, slots := 0, locals := 87 } : Room)) (by decide +kernel) (hw _ (List.mem_of_getElem? (i := 36) rfl)) (hw _ (List.mem_of_getElem? (i := 37) rfl)) (hw _ (List.mem_of_getElem? (i := 39) rfl)) (hw _ (List.mem_of_getElem? (i := 38) rfl)) (hw _ (List.mem_of_getElem? (i := 8) rfl)) (hw _ (List.mem_of_getElem? (i := 40) rfl)) (by decide) S.exa [.int (65533 : Int32)] [] (k_jw1 l wd a x0 P.old S i0) (le_ _ _ rfl) (W := 0) (le_ _ _ rfl) (by decide +kernel : parseMethodDescriptor "(I)I" = some ⟨[.int], some .int⟩) rfl rfl rfl (le_ _ _ rfl) (le_ _ _ rfl) (le_ _ _ rfl) (pc' := 6) rfl (fun T1 h1 v1 P1 Q1 => ?_)
  replace P1 := P1.more (k' := 0) (n' := 0) (le_ _ _ rfl) (le_ _ _ rfl)
  obtain ⟨w1, rfl, rfl, Q1⟩ := Q1
  rcases Q1 with ⟨q1, Q1⟩ | ⟨q1, Q1⟩
  · skip
    refine b_ifN C P1 (cd := .lt) (o := 7) (by decide +kernel) (pc' := 9) rfl q1 ?_
    refine blk C P1 [.iconst 1] (by decide +kernel) (pc' := 10) (L' := [.val (.ref a)]) (S' := [.int (1 : Int32)]) rfl ?_
    refine b_goto C P1 (o := 4) (by decide +kernel) (pc' := 14) (by decide) ?_
    exact r_int C P1 (ty := .boolean) (by simp) rfl (by decide +kernel) (le_ _ _ rfl) (le_ _ _ rfl) ⟨_, rfl, ⟨rfl, Or.inl ⟨rfl, Q1⟩⟩⟩
  · skip
    refine b_ifY C P1 (cd := .lt) (o := 7) (by decide +kernel) (pc' := 13) (by decide) q1 ?_
    refine blk C P1 [.iconst 0] (by decide +kernel) (pc' := 14) (L' := [.val (.ref a)]) (S' := [.int (0 : Int32)]) rfl ?_
    exact r_int C P1 (ty := .boolean) (by simp) rfl (by decide +kernel) (le_ _ _ rfl) (le_ _ _ rfl) ⟨_, rfl, ⟨rfl, Or.inr ⟨rfl, Q1⟩⟩⟩
theorem k_nl2_ef (m : MethodId)  : entryFrame m #[.int (2 : Int32)] 1 = fr m 0 [.val (.int (2 : Int32))] [] := by first | (simp [entryFrame, mkF, argsToLocals, Value.category]; done) | rfl
set_option maxRecDepth 65536 in
set_option maxHeartbeats 4000000 in
theorem k_nl2 (l : Launch) {Z : State} {a0 : Array Value} {n0 : Nat} {h : Heap} {z : Int32} {fm : Value} (wd : Wd Z a0 z fm)   (O : Old Z n0 h)  :
    Con l Z consts_1 n0 [] (⟨"java/lang/StringUTF16", "newBytesLength", "(I)I"⟩ : MethodName) jdk_52_method_3_code 1 (some .int) ({ frames := 0, cells := 0, slots := 0, locals := 0 } : Room) #[.int (2 : Int32)] h (Ret1 fun v h' => v = .int 4 ∧ h = h') := by
  obtain ⟨hw, hEL, Sz, hz, SA, SH, SL, SF, hfm⟩ := id wd
  refine Con.intro (plainFor_of_name (by first | (simp [plainName, overriddenIn]; done) | decide +kernel)) O hEL ?_
  intro p e s m below meth c T C hs P
  have C : Ctx Z a0 consts_1 p s m meth c "java/lang/StringUTF16" "newBytesLength" jdk_52_method_3_code 1 (some .int) := C
  refine Run.cast (k_nl2_ef m) ?_
  refine blk C P [.iload_n 0] (by decide +kernel) (pc' := 1) (L' := [.val (.int (2 : Int32))]) (S' := [.int (2 : Int32)]) rfl ?_
  refine b_ifY C P (cd := .ge) (o := 11) (by decide +kernel) (pc' := 12) (by decide) (by decide : ¬ (2 : Int32) < 0) ?_
  refine blk C P [.iload_n 0] (by decide +kernel) (pc' := 13) (L' := [.val (.int (2 : Int32))]) (S' := [.int (2 : Int32)]) rfl ?_
  refine s_ldcI C P (idx := 20) (by decide +kernel) (hw _ (List.mem_of_getElem? (i := 85) rfl)) (pc' := 15) rfl ?_
  refine b_cmY C P (cd := .lt) (o := 40) (by decide +kernel) (pc' := 55) (by decide) (by decide : (2 : Int32) < (1073741823 : Int32)) ?_
  refine blk C P [.iload_n 0, .iconst 1, .ishl] (by decide +kernel) (pc' := 58) (L' := [.val (.int (2 : Int32))]) (S' := [.int (4 : Int32)]) rfl ?_
  exact r_int C P (ty := .int) (by simp) rfl (by decide +kernel) (le_ _ _ rfl) (le_ _ _ rfl) ⟨_, rfl, ⟨rfl, rfl⟩⟩
theorem k_nf2_ef (m : MethodId)  : entryFrame m #[.int (2 : Int32)] 1 = fr m 0 [.val (.int (2 : Int32))] [] := by first | (simp [entryFrame, mkF, argsToLocals, Value.category]; done) | rfl
set_option maxRecDepth 65536 in
set_option maxHeartbeats 4000000 in
theorem k_nf2 (l : Launch) {Z : State} {a0 : Array Value} {n0 : Nat} {h : Heap} {z : Int32} {fm : Value} (wd : Wd Z a0 z fm)   (O : Old Z n0 h)  :
    Con l Z consts_1 n0 [] (⟨"java/lang/StringUTF16", "newBytesFor", "(I)[B"⟩ : MethodName) jdk_52_method_2_code 1 (some (.array .byte)) ({ frames := 1, cells := 1, slots := 4, locals := 12 } : Room) #[.int (2 : Int32)] h (Ret1 fun v h' => v = .ref h.size ∧ Ext h h' ∧ Bys Z n0 h' h.size [0, 0, 0, 0]) := by
  obtain ⟨hw, hEL, Sz, hz, SA, SH, SL, SF, hfm⟩ := id wd
  refine Con.intro (plainFor_of_name (by first | (simp [plainName, overriddenIn]; done) | decide +kernel)) O hEL ?_
  intro p e s m below meth c T C hs P
  have C : Ctx Z a0 consts_1 p s m meth c "java/lang/StringUTF16" "newBytesFor" jdk_52_method_2_code 1 (some (.array .byte)) := C
  refine Run.cast (k_nf2_ef m) ?_
  refine blk C P [.iload_n 0] (by decide +kernel) (pc' := 1) (L' := [.val (.int (2 : Int32))]) (S' := [.int (2 : Int32)]) rfl ?_
  refine c_static C P (idx := 11) (y := (⟨"java/lang/StringUTF16", "newBytesLength", "(I)I"⟩ : MethodName)) (ybytes := jdk_52_method_3_code) (ymax := 1) (yret := (some .int)) (yrm := ({ frames := 0, cells := 0, slots := 0, locals := 0 } : Room)) (by decide +kernel) (hw _ (List.mem_of_getElem? (i := 82) rfl)) (hw _ (List.mem_of_getElem? (i := 83) rfl)) (hw _ (List.mem_of_getElem? (i := 71) rfl)) (hw _ (List.mem_of_getElem? (i := 84) rfl)) (by decide) [.int (2 : Int32)] [] (k_nl2 l wd  P.old ) (le_ _ _ rfl) (W := 0) (le_ _ _ rfl) (by decide +kernel : parseMethodDescriptor "(I)I" = some ⟨[.int], some .int⟩) rfl rfl rfl (le_ _ _ rfl) (le_ _ _ rfl) (le_ _ _ rfl) (pc' := 4) rfl (fun T1 h1 v1 P1 Q1 => ?_)
  replace P1 := P1.more (k' := 0) (n' := 0) (le_ _ _ rfl) (le_ _ _ rfl)
  obtain ⟨rfl, rfl⟩ := Q1
  refine s_newB C P1 4 (by decide +kernel) (hw _ (List.mem_of_getElem? (i := 24) rfl)) rfl (by decide) (le_ _ _ rfl) (le_ _ _ rfl) (pc' := 6) rfl (fun T2 h2 P2 E2 V2 => ?_)
  replace P2 := P2.more (k' := 1) (n' := 4) (le_ _ _ rfl) (le_ _ _ rfl)
  exact r_ref C P2 (w := .ref h.size) rfl rfl (by decide +kernel) (le_ _ _ rfl) (le_ _ _ rfl) ⟨_, rfl, ⟨rfl, E2, V2⟩⟩
theorem k_tb2_ef (m : MethodId) (b : Addr) (x0 x1 : Int32) : entryFrame m #[.ref b, .int (0 : Int32), .int (2 : Int32)] 5 = fr m 0 [.val (.ref b), .val (.int (0 : Int32)), .val (.int (2 : Int32)), .unset, .unset] [] := by first | (simp [entryFrame, mkF, argsToLocals, Value.category]; done) | rfl
set_option maxRecDepth 65536 in
set_option maxHeartbeats 4000000 in
theorem k_tb2 (l : Launch) {Z : State} {a0 : Array Value} {n0 : Nat} {h : Heap} {z : Int32} {fm : Value} (wd : Wd Z a0 z fm) (b : Addr) (x0 x1 : Int32)  (O : Old Z n0 h) (V : Chs Z n0 h b [x0, x1]) :
    Con l Z consts_1 n0 [] (⟨"java/lang/StringUTF16", "toBytes", "([CII)[B"⟩ : MethodName) jdk_52_method_14_code 5 (some (.array .byte)) ({ frames := 2, cells := 1, slots := 4, locals := 24 } : Room) #[.ref b, .int (0 : Int32), .int (2 : Int32)] h (Ret1 fun v h' => v = .ref h.size ∧ Ext h h' ∧ Bys Z n0 h' h.size (wide [x0, x1])) := by
  obtain ⟨hw, hEL, Sz, hz, SA, SH, SL, SF, hfm⟩ := id wd
  refine Con.intro (plainFor_of_name (by first | (simp [plainName, overriddenIn]; done) | decide +kernel)) O hEL ?_
  intro p e s m below meth c T C hs P
  have C : Ctx Z a0 consts_1 p s m meth c "java/lang/StringUTF16" "toBytes" jdk_52_method_14_code 5 (some (.array .byte)) := C
  refine Run.cast (k_tb2_ef m b x0 x1) ?_
  refine blk C P [.iload_n 2] (by decide +kernel) (pc' := 1) (L' := [.val (.ref b), .val (.int (0 : Int32)), .val (.int (2 : Int32)), .unset, .unset]) (S' := [.int (2 : Int32)]) rfl ?_
  refine c_static C P (idx := 107) (y := (⟨"java/lang/StringUTF16", "newBytesFor", "(I)[B"⟩ : MethodName)) (ybytes := jdk_52_method_2_code) (ymax := 1) (yret := (some (.array .byte))) (yrm := ({ frames := 1, cells := 1, slots := 4, locals := 12 } : Room)) (by decide +kernel) (hw _ (List.mem_of_getElem? (i := 79) rfl)) (hw _ (List.mem_of_getElem? (i := 80) rfl)) (hw _ (List.mem_of_getElem? (i := 71) rfl)) (hw _ (List.mem_of_getElem? (i := 81) rfl)) (by decide) [.int (2 : Int32)] [] (k_nf2 l wd  P.old ) (le_ _ _ rfl) (W := 0) (le_ _ _ rfl) (by decide +kernel : parseMethodDescriptor "(I)[B" = some ⟨[.int], some (.array .byte)⟩) rfl rfl rfl (le_ _ _ rfl) (le_ _ _ rfl) (le_ _ _ rfl) (pc' := 4) rfl (fun T1 h1 v1 P1 Q1 => ?_)
  replace P1 := P1.more (k' := 1) (n' := 4) (le_ _ _ rfl) (le_ _ _ rfl)
  obtain ⟨rfl, E1, V1⟩ := Q1
  refine blk C P1 [.astore_n 3, .iconst 0, .istore 4, .iload 4, .iload_n 2] (by decide +kernel) (pc' := 11) (L' := [.val (.ref b), .val (.int (0 : Int32)), .val (.int (2 : Int32)), .val (.ref h.size), .val (.int (0 : Int32))]) (S' := [.int (2 : Int32), .int (0 : Int32)]) rfl ?_
  refine b_cmN C P1 (cd := .ge) (o := 21) (by decide +kernel) (pc' := 14) rfl (by decide : (0 : Int32) < (2 : Int32)) ?_
  refine blk C P1 [.aload_n 3, .iload 4, .aload_n 0, .iload_n 1] (by decide +kernel) (pc' := 19) (L' := [.val (.ref b), .val (.int (0 : Int32)), .val (.int (2 : Int32)), .val (.ref h.size), .val (.int (0 : Int32))]) (S' := [.int (0 : Int32), .ref b, .int (0 : Int32), .ref h.size]) rfl ?_
  refine s_ldC C P1 0 (x := x0) (by decide +kernel) (V.ext E1) rfl rfl (pc' := 20) rfl ?_
  refine c_static0 C P1 (idx := 111) (y := (⟨"java/lang/StringUTF16", "putChar", "([BII)V"⟩ : MethodName)) (ybytes := jdk_52_method_4_code) (ymax := 3) (yrm := ({ frames := 0, cells := 0, slots := 0, locals := 0 } : Room)) (by decide +kernel) (hw _ (List.mem_of_getElem? (i := 86) rfl)) (hw _ (List.mem_of_getElem? (i := 87) rfl)) (hw _ (List.mem_of_getElem? (i := 71) rfl)) (hw _ (List.mem_of_getElem? (i := 88) rfl)) (by decide) [.ref h.size, .int (0 : Int32), .int x0] [] (k_pc0 l wd (h.size) x0 P1.old V1 (Nat.lt_of_lt_of_le (Nat.lt_succ_self _) (le_ _ _ rfl))) (le_ _ _ rfl) (W := 0) (le_ _ _ rfl) (by decide +kernel : parseMethodDescriptor "([BII)V" = some ⟨[(.array .byte), .int, .int], none⟩) rfl rfl rfl (le_ _ _ rfl) (le_ _ _ rfl) (le_ _ _ rfl) (pc' := 23) rfl (fun T2 h2 P2 Q2 => ?_)
  replace P2 := P2.more (k' := 1) (n' := 4) (le_ _ _ rfl) (le_ _ _ rfl)
  obtain ⟨K2, V2⟩ := Q2
  replace V2 : Bys Z n0 h2 (h.size) [(wlo x0), (whi x0), (0 : Int32), (0 : Int32)] := V2
  refine blk C P2 [.iinc 1 1, .iinc 4 1] (by decide +kernel) (pc' := 29) (L' := [.val (.ref b), .val (.int (1 : Int32)), .val (.int (2 : Int32)), .val (.ref h.size), .val (.int (1 : Int32))]) (S' := []) rfl ?_
  refine b_goto C P2 (o := -21) (by decide +kernel) (pc' := 8) (by decide) ?_
  refine blk C P2 [.iload 4, .iload_n 2] (by decide +kernel) (pc' := 11) (L' := [.val (.ref b), .val (.int (1 : Int32)), .val (.int (2 : Int32)), .val (.ref h.size), .val (.int (1 : Int32))]) (S' := [.int (2 : Int32), .int (1 : Int32)]) rfl ?_
  refine b_cmN C P2 (cd := .ge) (o := 21) (by decide +kernel) (pc' := 14) rfl (by decide : (1 : Int32) < (2 : Int32)) ?_
  refine blk C P2 [.aload_n 3, .iload 4, .aload_n 0, .iload_n 1] (by decide +kernel) (pc' := 19) (L' := [.val (.ref b), .val (.int (1 : Int32)), .val (.int (2 : Int32)), .val (.ref h.size), .val (.int (1 : Int32))]) (S' := [.int (1 : Int32), .ref b, .int (1 : Int32), .ref h.size]) rfl ?_
  refine s_ldC C P2 1 (x := x1) (by decide +kernel) (V.ext (exK E1 K2 (Nat.le_refl _))) rfl rfl (pc' := 20) rfl ?_
  refine c_static0 C P2 (idx := 111) (y := (⟨"java/lang/StringUTF16", "putChar", "([BII)V"⟩ : MethodName)) (ybytes := jdk_52_method_4_code) (ymax := 3) (yrm := ({ frames := 0, cells := 0, slots := 0, locals := 0 } : Room)) (by decide +kernel) (hw _ (List.mem_of_getElem? (i := 86) rfl)) (hw _ (List.mem_of_getElem? (i := 87) rfl)) (hw _ (List.mem_of_getElem? (i := 71) rfl)) (hw _ (List.mem_of_getElem? (i := 88) rfl)) (by decide) [.ref h.size, .int (1 : Int32), .int x1] [] (k_pc1 l wd (h.size) x1 P2.old V2 (Nat.lt_of_lt_of_le (Nat.lt_succ_self _) (le_ _ _ rfl))) (le_ _ _ rfl) (W := 0) (le_ _ _ rfl) (by decide +kernel : parseMethodDescriptor "([BII)V" = some ⟨[(.array .byte), .int, .int], none⟩) rfl rfl rfl (le_ _ _ rfl) (le_ _ _ rfl) (le_ _ _ rfl) (pc' := 23) rfl (fun T3 h3 P3 Q3 => ?_)
  replace P3 := P3.more (k' := 1) (n' := 4) (le_ _ _ rfl) (le_ _ _ rfl)
  obtain ⟨K3, V3⟩ := Q3
  replace V3 : Bys Z n0 h3 (h.size) [(wlo x0), (whi x0), (wlo x1), (whi x1)] := V3
  refine blk C P3 [.iinc 1 1, .iinc 4 1] (by decide +kernel) (pc' := 29) (L' := [.val (.ref b), .val (.int (2 : Int32)), .val (.int (2 : Int32)), .val (.ref h.size), .val (.int (2 : Int32))]) (S' := []) rfl ?_
  refine b_goto C P3 (o := -21) (by decide +kernel) (pc' := 8) (by decide) ?_
  refine blk C P3 [.iload 4, .iload_n 2] (by decide +kernel) (pc' := 11) (L' := [.val (.ref b), .val (.int (2 : Int32)), .val (.int (2 : Int32)), .val (.ref h.size), .val (.int (2 : Int32))]) (S' := [.int (2 : Int32), .int (2 : Int32)]) rfl ?_
  refine b_cmY C P3 (cd := .ge) (o := 21) (by decide +kernel) (pc' := 32) (by decide) (by decide : ¬ (2 : Int32) < (2 : Int32)) ?_
  refine blk C P3 [.aload_n 3] (by decide +kernel) (pc' := 33) (L' := [.val (.ref b), .val (.int (2 : Int32)), .val (.int (2 : Int32)), .val (.ref h.size), .val (.int (2 : Int32))]) (S' := [.ref h.size]) rfl ?_
  exact r_ref C P3 (w := .ref h.size) rfl rfl (by decide +kernel) (le_ _ _ rfl) (le_ _ _ rfl) ⟨_, rfl, ⟨rfl, (exK (exK E1 K2 (Nat.le_refl _)) K3 (Nat.le_refl _)), V3⟩⟩
theorem k_c5_2_ef (m : MethodId) (b d : Addr) (x0 x1 : Int32) : entryFrame m #[.ref b, .int (0 : Int32), .ref d, .int (0 : Int32), .int (2 : Int32)] 7 = fr m 0 [.val (.ref b), .val (.int (0 : Int32)), .val (.ref d), .val (.int (0 : Int32)), .val (.int (2 : Int32)), .unset, .unset] [] := by first | (simp [entryFrame, mkF, argsToLocals, Value.category]; done) | rfl
set_option maxRecDepth 65536 in
set_option maxHeartbeats 4000000 in
theorem k_c5_2 (l : Launch) {Z : State} {a0 : Array Value} {n0 : Nat} {h : Heap} {z : Int32} {fm : Value} (wd : Wd Z a0 z fm) (b d : Addr) (x0 x1 : Int32)  (O : Old Z n0 h) (V : Chs Z n0 h b [x0, x1]) (D : Bys Z n0 h d [0, 0]) (any : (255 : Int32) < x0 ∨ (255 : Int32) < x1) :
    Con l Z consts_1 n0 [] (⟨"java/lang/StringUTF16", "compress", "([CI[BII)I"⟩ : MethodName) jdk_52_method_21_code 7 (some .int) ({ frames := 0, cells := 0, slots := 0, locals := 0 } : Room) #[.ref b, .int (0 : Int32), .ref d, .int (0 : Int32), .int (2 : Int32)] h (Ret1 fun v h' => Keep h h' [d] ∧ ((v = .int 0 ∧ (255 : Int32) < x0) ∨ (v = .int 1 ∧ (255 : Int32) < x1))) := by
  obtain ⟨hw, hEL, Sz, hz, SA, SH, SL, SF, hfm⟩ := id wd
  refine Con.intro (plainFor_of_name (by first | (simp [plainName, overriddenIn]; done) | decide +kernel)) O hEL ?_
  intro p e s m below meth c T C hs P
  have C : Ctx Z a0 consts_1 p s m meth c "java/lang/StringUTF16" "compress" jdk_52_method_21_code 7 (some .int) := C
  have hE : ∀ p ∈ consts_1, (Jvm.Cond.stringLink p.1 p.2 "").before a0 Z = true := fun p hp => by cases List.mem_singleton.mp hp; exact (hw _ (List.mem_of_getElem? (i := 23) rfl))
  refine Run.cast (k_c5_2_ef m b d x0 x1) ?_
  refine blk C P [.iconst 0, .istore 5, .iload 5, .iload 4] (by decide +kernel) (pc' := 7) (L' := [.val (.ref b), .val (.int (0 : Int32)), .val (.ref d), .val (.int (0 : Int32)), .val (.int (2 : Int32)), .val (.int (0 : Int32)), .unset]) (S' := [.int (2 : Int32), .int (0 : Int32)]) rfl ?_
  refine b_cmN C P (cd := .ge) (o := 37) (by decide +kernel) (pc' := 10) rfl (by decide : (0 : Int32) < (2 : Int32)) ?_
  refine blk C P [.aload_n 0, .iload_n 1] (by decide +kernel) (pc' := 12) (L' := [.val (.ref b), .val (.int (0 : Int32)), .val (.ref d), .val (.int (0 : Int32)), .val (.int (2 : Int32)), .val (.int (0 : Int32)), .unset]) (S' := [.int (0 : Int32), .ref b]) rfl ?_
  refine s_ldC C P 0 (x := x0) (by decide +kernel) V rfl rfl (pc' := 13) rfl ?_
  refine blk C P [.istore 6, .iload 6, .sipush 255] (by decide +kernel) (pc' := 20) (L' := [.val (.ref b), .val (.int (0 : Int32)), .val (.ref d), .val (.int (0 : Int32)), .val (.int (2 : Int32)), .val (.int (0 : Int32)), .val (.int x0)]) (S' := [.int (255 : Int32), .int x0]) rfl ?_
  refine b_cm C P (cd := .le) (o := 6) (by decide +kernel) (pc' := 26) (by decide) (pn := 23) rfl (fun (q1 : ¬ (255 : Int32) < x0) => ?_) (fun (q1 : (255 : Int32) < x0) => ?_)
  · skip
    refine blk C P [.aload_n 2, .iload_n 3, .iload 6, .i2b] (by decide +kernel) (pc' := 31) (L' := [.val (.ref b), .val (.int (0 : Int32)), .val (.ref d), .val (.int (0 : Int32)), .val (.int (2 : Int32)), .val (.int (0 : Int32)), .val (.int x0)]) (S' := [.int (x0.toInt8.toInt32), .int (0 : Int32), .ref d]) rfl ?_
    refine s_stB C P hE 0 (by decide +kernel) D rfl (Nat.lt_of_lt_of_le (Nat.lt_succ_self _) (le_ _ _ rfl)) (b8_idem _) (pc' := 32) rfl (fun T2 h2 P2 K2 V2 => ?_)
    have V3 := Chs.keep V K2 (Chs.neB V D)
    replace V2 : Bys Z n0 h2 (d) [(x0.toInt8.toInt32), (0 : Int32)] := V2
    refine blk C P2 [.iinc 1 1, .iinc 3 1, .iinc 5 1] (by decide +kernel) (pc' := 41) (L' := [.val (.ref b), .val (.int (1 : Int32)), .val (.ref d), .val (.int (1 : Int32)), .val (.int (2 : Int32)), .val (.int (1 : Int32)), .val (.int x0)]) (S' := []) rfl ?_
    refine b_goto C P2 (o := -38) (by decide +kernel) (pc' := 3) (by decide) ?_
    refine blk C P2 [.iload 5, .iload 4] (by decide +kernel) (pc' := 7) (L' := [.val (.ref b), .val (.int (1 : Int32)), .val (.ref d), .val (.int (1 : Int32)), .val (.int (2 : Int32)), .val (.int (1 : Int32)), .val (.int x0)]) (S' := [.int (2 : Int32), .int (1 : Int32)]) rfl ?_
    refine b_cmN C P2 (cd := .ge) (o := 37) (by decide +kernel) (pc' := 10) rfl (by decide : (1 : Int32) < (2 : Int32)) ?_
    refine blk C P2 [.aload_n 0, .iload_n 1] (by decide +kernel) (pc' := 12) (L' := [.val (.ref b), .val (.int (1 : Int32)), .val (.ref d), .val (.int (1 : Int32)), .val (.int (2 : Int32)), .val (.int (1 : Int32)), .val (.int x0)]) (S' := [.int (1 : Int32), .ref b]) rfl ?_
    refine s_ldC C P2 1 (x := x1) (by decide +kernel) V3 rfl rfl (pc' := 13) rfl ?_
    refine blk C P2 [.istore 6, .iload 6, .sipush 255] (by decide +kernel) (pc' := 20) (L' := [.val (.ref b), .val (.int (1 : Int32)), .val (.ref d), .val (.int (1 : Int32)), .val (.int (2 : Int32)), .val (.int (1 : Int32)), .val (.int x1)]) (S' := [.int (255 : Int32), .int x1]) rfl ?_
    refine b_cm C P2 (cd := .le) (o := 6) (by decide +kernel) (pc' := 26) (by decide) (pn := 23) rfl (fun (q4 : ¬ (255 : Int32) < x1) => ?_) (fun (q4 : (255 : Int32) < x1) => ?_)
    · skip
      refine blk C P2 [.aload_n 2, .iload_n 3, .iload 6, .i2b] (by decide +kernel) (pc' := 31) (L' := [.val (.ref b), .val (.int (1 : Int32)), .val (.ref d), .val (.int (1 : Int32)), .val (.int (2 : Int32)), .val (.int (1 : Int32)), .val (.int x1)]) (S' := [.int (x1.toInt8.toInt32), .int (1 : Int32), .ref d]) rfl ?_
      refine s_stB C P2 hE 1 (by decide +kernel) V2 rfl (Nat.lt_of_lt_of_le (Nat.lt_succ_self _) (le_ _ _ rfl)) (b8_idem _) (pc' := 32) rfl (fun T5 h5 P5 K5 V5 => ?_)
      have V6 := Chs.keep V3 K5 (Chs.neB V3 V2)
      replace V5 : Bys Z n0 h5 (d) [(x0.toInt8.toInt32), (x1.toInt8.toInt32)] := V5
      refine blk C P5 [.iinc 1 1, .iinc 3 1, .iinc 5 1] (by decide +kernel) (pc' := 41) (L' := [.val (.ref b), .val (.int (2 : Int32)), .val (.ref d), .val (.int (2 : Int32)), .val (.int (2 : Int32)), .val (.int (2 : Int32)), .val (.int x1)]) (S' := []) rfl ?_
      refine b_goto C P5 (o := -38) (by decide +kernel) (pc' := 3) (by decide) ?_
      refine blk C P5 [.iload 5, .iload 4] (by decide +kernel) (pc' := 7) (L' := [.val (.ref b), .val (.int (2 : Int32)), .val (.ref d), .val (.int (2 : Int32)), .val (.int (2 : Int32)), .val (.int (2 : Int32)), .val (.int x1)]) (S' := [.int (2 : Int32), .int (2 : Int32)]) rfl ?_
      refine b_cmY C P5 (cd := .ge) (o := 37) (by decide +kernel) (pc' := 44) (by decide) (by decide : ¬ (2 : Int32) < (2 : Int32)) ?_
      exact absurd any (fun z => z.elim q1 q4)
    · skip
      refine blk C P2 [.iload 5] (by decide +kernel) (pc' := 25) (L' := [.val (.ref b), .val (.int (1 : Int32)), .val (.ref d), .val (.int (1 : Int32)), .val (.int (2 : Int32)), .val (.int (1 : Int32)), .val (.int x1)]) (S' := [.int (1 : Int32)]) rfl ?_
      exact r_int C P2 (ty := .int) (by simp) rfl (by decide +kernel) (le_ _ _ rfl) (le_ _ _ rfl) ⟨_, rfl, ⟨K2, Or.inr (⟨rfl, q4⟩)⟩⟩
  · skip
    refine blk C P [.iload 5] (by decide +kernel) (pc' := 25) (L' := [.val (.ref b), .val (.int (0 : Int32)), .val (.ref d), .val (.int (0 : Int32)), .val (.int (2 : Int32)), .val (.int (0 : Int32)), .val (.int x0)]) (S' := [.int (0 : Int32)]) rfl ?_
    exact r_int C P (ty := .int) (by simp) rfl (by decide +kernel) (le_ _ _ rfl) (le_ _ _ rfl) ⟨_, rfl, ⟨(Keep.refl h [d]), Or.inl ⟨rfl, q1⟩⟩⟩
theorem k_c3_2_ef (m : MethodId) (b : Addr) (x0 x1 : Int32) : entryFrame m #[.ref b, .int (0 : Int32), .int (2 : Int32)] 6 = fr m 0 [.val (.ref b), .val (.int (0 : Int32)), .val (.int (2 : Int32)), .unset, .unset, .unset] [] := by first | (simp [entryFrame, mkF, argsToLocals, Value.category]; done) | rfl
set_option maxRecDepth 65536 in
set_option maxHeartbeats 4000000 in
theorem k_c3_2 (l : Launch) {Z : State} {a0 : Array Value} {n0 : Nat} {h : Heap} {z : Int32} {fm : Value} (wd : Wd Z a0 z fm) (b : Addr) (x0 x1 : Int32)  (O : Old Z n0 h) (V : Chs Z n0 h b [x0, x1]) (any : (255 : Int32) < x0 ∨ (255 : Int32) < x1) (i0 : c16 x0 = x0) (i1 : c16 x1 = x1) :
    Con l Z consts_1 n0 [] (⟨"java/lang/StringUTF16", "compress", "([CII)[B"⟩ : MethodName) jdk_52_method_16_code 6 (some (.array .byte)) ({ frames := 3, cells := 2, slots := 6, locals := 40 } : Room) #[.ref b, .int (0 : Int32), .int (2 : Int32)] h (Ret1 fun v h' => ∃ t, v = .ref t ∧ Ext h h' ∧ Bys Z n0 h' t (wide [x0, x1])) := by
  obtain ⟨hw, hEL, Sz, hz, SA, SH, SL, SF, hfm⟩ := id wd
  refine Con.intro (plainFor_of_name (by first | (simp [plainName, overriddenIn]; done) | decide +kernel)) O hEL ?_
  intro p e s m below meth c T C hs P
  have C : Ctx Z a0 consts_1 p s m meth c "java/lang/StringUTF16" "compress" jdk_52_method_16_code 6 (some (.array .byte)) := C
  refine Run.cast (k_c3_2_ef m b x0 x1) ?_
  refine blk C P [.iload_n 2] (by decide +kernel) (pc' := 1) (L' := [.val (.ref b), .val (.int (0 : Int32)), .val (.int (2 : Int32)), .unset, .unset, .unset]) (S' := [.int (2 : Int32)]) rfl ?_
  refine s_newB C P 2 (by decide +kernel) (hw _ (List.mem_of_getElem? (i := 24) rfl)) rfl (by decide) (le_ _ _ rfl) (le_ _ _ rfl) (pc' := 3) rfl (fun T1 h1 P1 E1 V1 => ?_)
  replace P1 := P1.more (k' := 1) (n' := 2) (le_ _ _ rfl) (le_ _ _ rfl)
  refine blk C P1 [.astore_n 3, .aload_n 0, .iload_n 1, .aload_n 3, .iconst 0, .iload_n 2] (by decide +kernel) (pc' := 9) (L' := [.val (.ref b), .val (.int (0 : Int32)), .val (.int (2 : Int32)), .val (.ref h.size), .unset, .unset]) (S' := [.int (2 : Int32), .int (0 : Int32), .ref h.size, .int (0 : Int32), .ref b]) rfl ?_
  refine c_static C P1 (idx := 115) (y := (⟨"java/lang/StringUTF16", "compress", "([CI[BII)I"⟩ : MethodName)) (ybytes := jdk_52_method_21_code) (ymax := 7) (yret := (some .int)) (yrm := ({ frames := 0, cells := 0, slots := 0, locals := 0 } : Room)) (by decide +kernel) (hw _ (List.mem_of_getElem? (i := 73) rfl)) (hw _ (List.mem_of_getElem? (i := 74) rfl)) (hw _ (List.mem_of_getElem? (i := 71) rfl)) (hw _ (List.mem_of_getElem? (i := 75) rfl)) (by decide) [.ref b, .int (0 : Int32), .ref h.size, .int (0 : Int32), .int (2 : Int32)] [] (k_c5_2 l wd b (h.size) x0 x1 P1.old (V.ext E1) V1 any) (le_ _ _ rfl) (W := 0) (le_ _ _ rfl) (by decide +kernel : parseMethodDescriptor "([CI[BII)I" = some ⟨[(.array .char), .int, (.array .byte), .int, .int], some .int⟩) rfl rfl rfl (le_ _ _ rfl) (le_ _ _ rfl) (le_ _ _ rfl) (pc' := 12) rfl (fun T2 h2 v2 P2 Q2 => ?_)
  replace P2 := P2.more (k' := 1) (n' := 2) (le_ _ _ rfl) (le_ _ _ rfl)
  obtain ⟨K2, Q2⟩ := Q2
  rcases Q2 with ⟨rfl, Q2⟩ | ⟨rfl, Q2⟩
  · skip
    refine blk C P2 [.istore 4, .iload 4, .iload_n 2] (by decide +kernel) (pc' := 17) (L' := [.val (.ref b), .val (.int (0 : Int32)), .val (.int (2 : Int32)), .val (.ref h.size), .val (.int (0 : Int32)), .unset]) (S' := [.int (2 : Int32), .int (0 : Int32)]) rfl ?_
    refine b_cmN C P2 (cd := .eq) (o := 40) (by decide +kernel) (pc' := 20) rfl (by decide : ¬ (0 : Int32) = (2 : Int32)) ?_
    refine blk C P2 [.aload_n 0, .iload_n 1, .iload_n 2] (by decide +kernel) (pc' := 23) (L' := [.val (.ref b), .val (.int (0 : Int32)), .val (.int (2 : Int32)), .val (.ref h.size), .val (.int (0 : Int32)), .unset]) (S' := [.int (2 : Int32), .int (0 : Int32), .ref b]) rfl ?_
    refine c_static C P2 (idx := 119) (y := (⟨"java/lang/StringUTF16", "toBytes", "([CII)[B"⟩ : MethodName)) (ybytes := jdk_52_method_14_code) (ymax := 5) (yret := (some (.array .byte))) (yrm := ({ frames := 2, cells := 1, slots := 4, locals := 24 } : Room)) (by decide +kernel) (hw _ (List.mem_of_getElem? (i := 76) rfl)) (hw _ (List.mem_of_getElem? (i := 77) rfl)) (hw _ (List.mem_of_getElem? (i := 71) rfl)) (hw _ (List.mem_of_getElem? (i := 78) rfl)) (by decide) [.ref b, .int (0 : Int32), .int (2 : Int32)] [] (k_tb2 l wd b x0 x1 P2.old (V.ext (exK E1 K2 (Nat.le_refl _)))) (le_ _ _ rfl) (W := 0) (le_ _ _ rfl) (by decide +kernel : parseMethodDescriptor "([CII)[B" = some ⟨[(.array .char), .int, .int], some (.array .byte)⟩) rfl rfl rfl (le_ _ _ rfl) (le_ _ _ rfl) (le_ _ _ rfl) (pc' := 26) rfl (fun T3 h3 v3 P3 Q3 => ?_)
    replace P3 := P3.more (k' := 2) (n' := 6) (le_ _ _ rfl) (le_ _ _ rfl)
    obtain ⟨rfl, E3, V3⟩ := Q3
    refine blk C P3 [.astore 5, .aload 5, .iload 4] (by decide +kernel) (pc' := 32) (L' := [.val (.ref b), .val (.int (0 : Int32)), .val (.int (2 : Int32)), .val (.ref h.size), .val (.int (0 : Int32)), .val (.ref h2.size)]) (S' := [.int (0 : Int32), .ref h2.size]) rfl ?_
    refine c_static C P3 (idx := 71) (y := (⟨"java/lang/StringUTF16", "getChar", "([BI)C"⟩ : MethodName)) (ybytes := jdk_52_method_5_code) (ymax := 2) (yret := (some .char)) (yrm := ({ frames := 0, cells := 0, slots := 0, locals := 0 } : Room)) (by decide +kernel) (hw _ (List.mem_of_getElem? (i := 92) rfl)) (hw _ (List.mem_of_getElem? (i := 93) rfl)) (hw _ (List.mem_of_getElem? (i := 71) rfl)) (hw _ (List.mem_of_getElem? (i := 94) rfl)) (by decide) [.ref h2.size, .int (0 : Int32)] [] (k_gc0 l wd (h2.size) x0 P3.old V3 rfl rfl i0) (le_ _ _ rfl) (W := 0) (le_ _ _ rfl) (by decide +kernel : parseMethodDescriptor "([BI)C" = some ⟨[(.array .byte), .int], some .char⟩) rfl rfl rfl (le_ _ _ rfl) (le_ _ _ rfl) (le_ _ _ rfl) (pc' := 35) rfl (fun T4 h4 v4 P4 Q4 => ?_)
    replace P4 := P4.more (k' := 2) (n' := 6) (le_ _ _ rfl) (le_ _ _ rfl)
    obtain ⟨rfl, rfl⟩ := Q4
    refine blk C P4 [.sipush 255] (by decide +kernel) (pc' := 38) (L' := [.val (.ref b), .val (.int (0 : Int32)), .val (.int (2 : Int32)), .val (.ref h.size), .val (.int (0 : Int32)), .val (.ref h2.size)]) (S' := [.int (255 : Int32), .int x0]) rfl ?_
    refine b_cmY C P4 (cd := .gt) (o := 16) (by decide +kernel) (pc' := 54) (by decide) Q2 ?_
    refine blk C P4 [.aload 5] (by decide +kernel) (pc' := 56) (L' := [.val (.ref b), .val (.int (0 : Int32)), .val (.int (2 : Int32)), .val (.ref h.size), .val (.int (0 : Int32)), .val (.ref h2.size)]) (S' := [.ref h2.size]) rfl ?_
    exact r_ref C P4 (w := .ref h2.size) rfl rfl (by decide +kernel) (le_ _ _ rfl) (le_ _ _ rfl) ⟨_, rfl, ⟨_, rfl, (exT (exK E1 K2 (Nat.le_refl _)) E3), V3⟩⟩
  · skip
    refine blk C P2 [.istore 4, .iload 4, .iload_n 2] (by decide +kernel) (pc' := 17) (L' := [.val (.ref b), .val (.int (0 : Int32)), .val (.int (2 : Int32)), .val (.ref h.size), .val (.int (1 : Int32)), .unset]) (S' := [.int (2 : Int32), .int (1 : Int32)]) rfl ?_
    refine b_cmN C P2 (cd := .eq) (o := 40) (by decide +kernel) (pc' := 20) rfl (by decide : ¬ (1 : Int32) = (2 : Int32)) ?_
    refine blk C P2 [.aload_n 0, .iload_n 1, .iload_n 2] (by decide +kernel) (pc' := 23) (L' := [.val (.ref b), .val (.int (0 : Int32)), .val (.int (2 : Int32)), .val (.ref h.size), .val (.int (1 : Int32)), .unset]) (S' := [.int (2 : Int32), .int (0 : Int32), .ref b]) rfl ?_
    refine c_static C P2 (idx := 119) (y := (⟨"java/lang/StringUTF16", "toBytes", "([CII)[B"⟩ : MethodName)) (ybytes := jdk_52_method_14_code) (ymax := 5) (yret := (some (.array .byte))) (yrm := ({ frames := 2, cells := 1, slots := 4, locals := 24 } : Room)) (by decide +kernel) (hw _ (List.mem_of_getElem? (i := 76) rfl)) (hw _ (List.mem_of_getElem? (i := 77) rfl)) (hw _ (List.mem_of_getElem? (i := 71) rfl)) (hw _ (List.mem_of_getElem? (i := 78) rfl)) (by decide) [.ref b, .int (0 : Int32), .int (2 : Int32)] [] (k_tb2 l wd b x0 x1 P2.old (V.ext (exK E1 K2 (Nat.le_refl _)))) (le_ _ _ rfl) (W := 0) (le_ _ _ rfl) (by decide +kernel : parseMethodDescriptor "([CII)[B" = some ⟨[(.array .char), .int, .int], some (.array .byte)⟩) rfl rfl rfl (le_ _ _ rfl) (le_ _ _ rfl) (le_ _ _ rfl) (pc' := 26) rfl (fun T5 h5 v5 P5 Q5 => ?_)
    replace P5 := P5.more (k' := 2) (n' := 6) (le_ _ _ rfl) (le_ _ _ rfl)
    obtain ⟨rfl, E5, V5⟩ := Q5
    refine blk C P5 [.astore 5, .aload 5, .iload 4] (by decide +kernel) (pc' := 32) (L' := [.val (.ref b), .val (.int (0 : Int32)), .val (.int (2 : Int32)), .val (.ref h.size), .val (.int (1 : Int32)), .val (.ref h2.size)]) (S' := [.int (1 : Int32), .ref h2.size]) rfl ?_
    refine c_static C P5 (idx := 71) (y := (⟨"java/lang/StringUTF16", "getChar", "([BI)C"⟩ : MethodName)) (ybytes := jdk_52_method_5_code) (ymax := 2) (yret := (some .char)) (yrm := ({ frames := 0, cells := 0, slots := 0, locals := 0 } : Room)) (by decide +kernel) (hw _ (List.mem_of_getElem? (i := 92) rfl)) (hw _ (List.mem_of_getElem? (i := 93) rfl)) (hw _ (List.mem_of_getElem? (i := 71) rfl)) (hw _ (List.mem_of_getElem? (i := 94) rfl)) (by decide) [.ref h2.size, .int (1 : Int32)] [] (k_gc1 l wd (h2.size) x1 P5.old V5 rfl rfl i1) (le_ _ _ rfl) (W := 0) (le_ _ _ rfl) (by decide +kernel : parseMethodDescriptor "([BI)C" = some ⟨[(.array .byte), .int], some .char⟩) rfl rfl rfl (le_ _ _ rfl) (le_ _ _ rfl) (le_ _ _ rfl) (pc' := 35) rfl (fun T6 h6 v6 P6 Q6 => ?_)
    replace P6 := P6.more (k' := 2) (n' := 6) (le_ _ _ rfl) (le_ _ _ rfl)
    obtain ⟨rfl, rfl⟩ := Q6
    refine blk C P6 [.sipush 255] (by decide +kernel) (pc' := 38) (L' := [.val (.ref b), .val (.int (0 : Int32)), .val (.int (2 : Int32)), .val (.ref h.size), .val (.int (1 : Int32)), .val (.ref h2.size)]) (S' := [.int (255 : Int32), .int x1]) rfl ?_
    refine b_cmY C P6 (cd := .gt) (o := 16) (by decide +kernel) (pc' := 54) (by decide) Q2 ?_
    refine blk C P6 [.aload 5] (by decide +kernel) (pc' := 56) (L' := [.val (.ref b), .val (.int (0 : Int32)), .val (.int (2 : Int32)), .val (.ref h.size), .val (.int (1 : Int32)), .val (.ref h2.size)]) (S' := [.ref h2.size]) rfl ?_
    exact r_ref C P6 (w := .ref h2.size) rfl rfl (by decide +kernel) (le_ _ _ rfl) (le_ _ _ rfl) ⟨_, rfl, ⟨_, rfl, (exT (exK E1 K2 (Nat.le_refl _)) E5), V5⟩⟩
theorem k_cl2_ef (m : MethodId) (t : Addr) (x0 x1 : Int32) : entryFrame m #[.ref t, .int (2 : Int32)] 2 = fr m 0 [.val (.ref t), .val (.int (2 : Int32))] [] := by first | (simp [entryFrame, mkF, argsToLocals, Value.category]; done) | rfl
set_option maxRecDepth 65536 in
set_option maxHeartbeats 4000000 in
theorem k_cl2 (l : Launch) {Z : State} {a0 : Array Value} {n0 : Nat} {h : Heap} {z : Int32} {fm : Value} (wd : Wd Z a0 z fm) (t : Addr) (x0 x1 : Int32)  (O : Old Z n0 h) (B : Bys Z n0 h t (wide [x0, x1])) :
    Con l Z consts_1 n0 [] (⟨"java/lang/StringUTF16", "coderFromArrayLen", "([BI)B"⟩ : MethodName) jdk_52_method_15_code 2 (some .byte) ({ frames := 0, cells := 0, slots := 0, locals := 0 } : Room) #[.ref t, .int (2 : Int32)] h (Ret1 fun v h' => v = .int 1 ∧ h = h') := by
  obtain ⟨hw, hEL, Sz, hz, SA, SH, SL, SF, hfm⟩ := id wd
  refine Con.intro (plainFor_of_name (by first | (simp [plainName, overriddenIn]; done) | decide +kernel)) O hEL ?_
  intro p e s m below meth c T C hs P
  have C : Ctx Z a0 consts_1 p s m meth c "java/lang/StringUTF16" "coderFromArrayLen" jdk_52_method_15_code 2 (some .byte) := C
  refine Run.cast (k_cl2_ef m t x0 x1) ?_
  refine blk C P [.iload_n 1, .aload_n 0] (by decide +kernel) (pc' := 2) (L' := [.val (.ref t), .val (.int (2 : Int32))]) (S' := [.ref t, .int (2 : Int32)]) rfl ?_
  refine s_alenB C P 4 (by decide +kernel) B rfl (pc' := 3) rfl ?_
  refine blk C P [.isub, .bipush 31, .iushr, .i2b] (by decide +kernel) (pc' := 8) (L' := [.val (.ref t), .val (.int (2 : Int32))]) (S' := [.int (1 : Int32)]) rfl ?_
  exact r_int C P (ty := .byte) (by simp) rfl (by decide +kernel) (le_ _ _ rfl) (le_ _ _ rfl) ⟨_, rfl, ⟨rfl, rfl⟩⟩
theorem k_i4_2_ef (m : MethodId) (a b : Addr) (x0 x1 : Int32) : entryFrame m #[.ref a, .ref b, .int (0 : Int32), .int (2 : Int32), .null] 6 = fr m 0 [.val (.ref a), .val (.ref b), .val (.int (0 : Int32)), .val (.int (2 : Int32)), .val (.null), .unset] [] := by first | (simp [entryFrame, mkF, argsToLocals, Value.category]; done) | rfl
set_option maxRecDepth 65536 in
set_option maxHeartbeats 4000000 in
theorem k_i4_2 (l : Launch) {Z : State} {a0 : Array Value} {n0 : Nat} {h : Heap} {z : Int32} {fm : Value} (wd : Wd Z a0 z fm) (a b : Addr) (x0 x1 : Int32)  (O : Old Z n0 h) (B : Blk Z a0 n0 h a sST) (V : Chs Z n0 h b [x0, x1]) (any : (255 : Int32) < x0 ∨ (255 : Int32) < x1) (i0 : c16 x0 = x0) (i1 : c16 x1 = x1) :
    Con l Z consts_1 n0 [] (⟨"java/lang/String", "<init>", "([CIILjava/lang/Void;)V"⟩ : MethodName) jdk_42_method_149_code 6 none ({ frames := 4, cells := 2, slots := 6, locals := 57 } : Room) #[.ref a, .ref b, .int (0 : Int32), .int (2 : Int32), .null] h (Ret0 fun h' => Keep h h' [a] ∧ Str16 Z n0 h' a [x0, x1]) := by
  obtain ⟨hw, hEL, Sz, hz, SA, SH, SL, SF, hfm⟩ := id wd
  refine Con.intro (plainFor_of_name (by first | (simp [plainName, overriddenIn]; done) | decide +kernel)) O hEL ?_
  intro p e s m below meth c T C hs P
  have C : Ctx Z a0 consts_1 p s m meth c "java/lang/String" "<init>" jdk_42_method_149_code 6 none := C
  refine Run.cast (k_i4_2_ef m a b x0 x1) ?_
  refine blk C P [.aload_n 0] (by decide +kernel) (pc' := 1) (L' := [.val (.ref a), .val (.ref b), .val (.int (0 : Int32)), .val (.int (2 : Int32)), .val (.null), .unset]) (S' := [.ref a]) rfl ?_
  refine s_initO C P (idx := 1) (by decide +kernel) (hw _ (List.mem_of_getElem? (i := 20) rfl)) (hw _ (List.mem_of_getElem? (i := 21) rfl)) (hw _ (List.mem_of_getElem? (i := 22) rfl)) rfl (le_ _ _ rfl) (W := 0) (le_ _ _ rfl) (le_ _ _ rfl) (pc' := 4) rfl (fun T1 P1 => ?_)
  refine blk C P1 [.iload_n 3] (by decide +kernel) (pc' := 5) (L' := [.val (.ref a), .val (.ref b), .val (.int (0 : Int32)), .val (.int (2 : Int32)), .val (.null), .unset]) (S' := [.int (2 : Int32)]) rfl ?_
  refine b_ifY C P1 (cd := .ne) (o := 22) (by decide +kernel) (pc' := 27) (by decide) (by decide : ¬ (2 : Int32) = 0) ?_
  refine s_gets C P1 (idx := 38) (by decide +kernel) (hw _ (List.mem_of_getElem? (i := 51) rfl)) Sz (pc' := 30) rfl (fun T2 P2 => ?_)
  refine b_ifN C P2 (cd := .eq) (o := 28) (by decide +kernel) (pc' := 33) rfl hz ?_
  refine blk C P2 [.aload_n 1, .iload_n 2, .iload_n 3] (by decide +kernel) (pc' := 36) (L' := [.val (.ref a), .val (.ref b), .val (.int (0 : Int32)), .val (.int (2 : Int32)), .val (.null), .unset]) (S' := [.int (2 : Int32), .int (0 : Int32), .ref b]) rfl ?_
  refine c_static C P2 (idx := 177) (y := (⟨"java/lang/StringUTF16", "compress", "([CII)[B"⟩ : MethodName)) (ybytes := jdk_52_method_16_code) (ymax := 6) (yret := (some (.array .byte))) (yrm := ({ frames := 3, cells := 2, slots := 6, locals := 40 } : Room)) (by decide +kernel) (hw _ (List.mem_of_getElem? (i := 69) rfl)) (hw _ (List.mem_of_getElem? (i := 70) rfl)) (hw _ (List.mem_of_getElem? (i := 71) rfl)) (hw _ (List.mem_of_getElem? (i := 72) rfl)) (by decide) [.ref b, .int (0 : Int32), .int (2 : Int32)] [] (k_c3_2 l wd b x0 x1 P2.old V any i0 i1) (le_ _ _ rfl) (W := 0) (le_ _ _ rfl) (by decide +kernel : parseMethodDescriptor "([CII)[B" = some ⟨[(.array .char), .int, .int], some (.array .byte)⟩) rfl rfl rfl (le_ _ _ rfl) (le_ _ _ rfl) (le_ _ _ rfl) (pc' := 39) rfl (fun T3 h3 v3 P3 Q3 => ?_)
  replace P3 := P3.more (k' := 2) (n' := 6) (le_ _ _ rfl) (le_ _ _ rfl)
  obtain ⟨b3, rfl, E3, V3⟩ := Q3
  refine blk C P3 [.astore 5, .aload_n 0, .aload 5, .iload_n 3] (by decide +kernel) (pc' := 45) (L' := [.val (.ref a), .val (.ref b), .val (.int (0 : Int32)), .val (.int (2 : Int32)), .val (.null), .val (.ref b3)]) (S' := [.int (2 : Int32), .ref b3, .ref a]) rfl ?_
  refine c_static C P3 (idx := 47) (y := (⟨"java/lang/StringUTF16", "coderFromArrayLen", "([BI)B"⟩ : MethodName)) (ybytes := jdk_52_method_15_code) (ymax := 2) (yret := (some .byte)) (yrm := ({ frames := 0, cells := 0, slots := 0, locals := 0 } : Room)) (by decide +kernel) (hw _ (List.mem_of_getElem? (i := 95) rfl)) (hw _ (List.mem_of_getElem? (i := 96) rfl)) (hw _ (List.mem_of_getElem? (i := 71) rfl)) (hw _ (List.mem_of_getElem? (i := 97) rfl)) (by decide) [.ref b3, .int (2 : Int32)] [.ref a] (k_cl2 l wd b3 x0 x1 P3.old V3) (le_ _ _ rfl) (W := 1) (le_ _ _ rfl) (by decide +kernel : parseMethodDescriptor "([BI)B" = some ⟨[(.array .byte), .int], some .byte⟩) rfl rfl rfl (le_ _ _ rfl) (le_ _ _ rfl) (le_ _ _ rfl) (pc' := 48) rfl (fun T4 h4 v4 P4 Q4 => ?_)
  replace P4 := P4.more (k' := 2) (n' := 6) (le_ _ _ rfl) (le_ _ _ rfl)
  obtain ⟨rfl, rfl⟩ := Q4
  refine s_putS C P4 (idx := 15) (by decide +kernel) (hw _ (List.mem_of_getElem? (i := 30) rfl)) B.1 ((B.2.2 (Or.inr (hw _ (List.mem_of_getElem? (i := 26) rfl))) (ty := .byte) (by decide)).ext E3) (B.2.1.ext E3) ((B.2.2 (Or.inr (hw _ (List.mem_of_getElem? (i := 25) rfl))) (ty := (.array .byte)) (by decide)).ext E3) (hw _ (List.mem_of_getElem? (i := 26) rfl)) rfl (hw _ (List.mem_of_getElem? (i := 7) rfl)) (ty := .byte) (by decide) rfl rfl (pc' := 51) rfl (fun T5 h5 P5 W5 => ?_)
  have G6 := (B.2.1.ext E3).wr W5
  have G7 := ((B.2.2 (Or.inr (hw _ (List.mem_of_getElem? (i := 26) rfl))) (ty := .byte) (by decide)).ext E3).same W5
  have G8 := ((B.2.2 (Or.inr (hw _ (List.mem_of_getElem? (i := 25) rfl))) (ty := (.array .byte)) (by decide)).ext E3).other W5 (Or.inr (slot_ne (C := "java/lang/String") (Or.inr (hw _ (List.mem_of_getElem? (i := 25) rfl))) (Or.inr (hw _ (List.mem_of_getElem? (i := 26) rfl))) (by decide) (t := (.array .byte)) (by decide) (t' := .byte) (by decide)))
  have G9 := Bys.wr V3 W5 (B.2.1.ext E3) (hw _ (List.mem_of_getElem? (i := 7) rfl))
  refine blk C P5 [.aload_n 0, .aload 5] (by decide +kernel) (pc' := 54) (L' := [.val (.ref a), .val (.ref b), .val (.int (0 : Int32)), .val (.int (2 : Int32)), .val (.null), .val (.ref b3)]) (S' := [.ref b3, .ref a]) rfl ?_
  refine s_putS C P5 (idx := 9) (by decide +kernel) (hw _ (List.mem_of_getElem? (i := 29) rfl)) B.1 G8 G6 G8 (hw _ (List.mem_of_getElem? (i := 25) rfl)) rfl (hw _ (List.mem_of_getElem? (i := 7) rfl)) (ty := (.array .byte)) (by decide) rfl rfl (pc' := 57) rfl (fun T10 h10 P10 W10 => ?_)
  have G11 := G6.wr W10
  have G12 := G7.other W10 (Or.inr (slot_ne (C := "java/lang/String") (Or.inr (hw _ (List.mem_of_getElem? (i := 26) rfl))) (Or.inr (hw _ (List.mem_of_getElem? (i := 25) rfl))) (by decide) (t := .byte) (by decide) (t' := (.array .byte)) (by decide)))
  have G13 := G8.same W10
  have G14 := Bys.wr G9 W10 G6 (hw _ (List.mem_of_getElem? (i := 7) rfl))
  exact r_void C P10 (by decide +kernel) (le_ _ _ rfl) (le_ _ _ rfl) ⟨rfl, ⟨((((Keep.refl h [a]).ext E3).wr W5 (Or.inl (List.mem_singleton.mpr rfl))).wr W10 (Or.inl (List.mem_singleton.mpr rfl))), G11, G12, _, G13, G14⟩⟩
theorem k_i1_2_ef (m : MethodId) (a b : Addr) (x0 x1 : Int32) : entryFrame m #[.ref a, .ref b] 2 = fr m 0 [.val (.ref a), .val (.ref b)] [] := by first | (simp [entryFrame, mkF, argsToLocals, Value.category]; done) | rfl
set_option maxRecDepth 65536 in
set_option maxHeartbeats 4000000 in
theorem k_i1_2 (l : Launch) {Z : State} {a0 : Array Value} {n0 : Nat} {h : Heap} {z : Int32} {fm : Value} (wd : Wd Z a0 z fm) (a b : Addr) (x0 x1 : Int32)  (O : Old Z n0 h) (B : Blk Z a0 n0 h a sST) (V : Chs Z n0 h b [x0, x1]) (any : (255 : Int32) < x0 ∨ (255 : Int32) < x1) (i0 : c16 x0 = x0) (i1 : c16 x1 = x1) :
    Con l Z consts_1 n0 [] (⟨"java/lang/String", "<init>", "([C)V"⟩ : MethodName) jdk_42_method_3_code 2 none ({ frames := 5, cells := 2, slots := 6, locals := 74 } : Room) #[.ref a, .ref b] h (Ret0 fun h' => Keep h h' [a] ∧ Str16 Z n0 h' a [x0, x1]) := by
  obtain ⟨hw, hEL, Sz, hz, SA, SH, SL, SF, hfm⟩ := id wd
  refine Con.intro (plainFor_of_name (by first | (simp [plainName, overriddenIn]; done) | decide +kernel)) O hEL ?_
  intro p e s m below meth c T C hs P
  have C : Ctx Z a0 consts_1 p s m meth c "java/lang/String" "<init>" jdk_42_method_3_code 2 none := C
  refine Run.cast (k_i1_2_ef m a b x0 x1) ?_
  refine blk C P [.aload_n 0, .aload_n 1, .iconst 0, .aload_n 1] (by decide +kernel) (pc' := 4) (L' := [.val (.ref a), .val (.ref b)]) (S' := [.ref b, .int (0 : Int32), .ref b, .ref a]) rfl ?_
  refine s_alenC C P 2 (by decide +kernel) V rfl (pc' := 5) rfl ?_
  refine blk C P [.aconst_null] (by decide +kernel) (pc' := 6) (L' := [.val (.ref a), .val (.ref b)]) (S' := [.null, .int (2 : Int32), .int (0 : Int32), .ref b, .ref a]) rfl ?_
  refine c_special C P (idx := 27) (y := (⟨"java/lang/String", "<init>", "([CIILjava/lang/Void;)V"⟩ : MethodName)) (ybytes := jdk_42_method_149_code) (ymax := 6) (yrm := ({ frames := 4, cells := 2, slots := 6, locals := 57 } : Room)) rfl (by decide +kernel) (hw _ (List.mem_of_getElem? (i := 16) rfl)) (hw _ (List.mem_of_getElem? (i := 17) rfl)) (hw _ (List.mem_of_getElem? (i := 8) rfl)) (hw _ (List.mem_of_getElem? (i := 19) rfl)) (by decide) [.ref b, .int (0 : Int32), .int (2 : Int32), .null] [] (k_i4_2 l wd a b x0 x1 P.old B V any i0 i1) (le_ _ _ rfl) (W := 0) (le_ _ _ rfl) (by decide +kernel : parseMethodDescriptor "([CIILjava/lang/Void;)V" = some ⟨[(.array .char), .int, .int, (.object "java/lang/Void")], none⟩) rfl rfl rfl (le_ _ _ rfl) (le_ _ _ rfl) (le_ _ _ rfl) (pc' := 9) rfl (fun T1 h1 P1 Q1 => ?_)
  replace P1 := P1.more (k' := 2) (n' := 6) (le_ _ _ rfl) (le_ _ _ rfl)
  obtain ⟨K1, S1⟩ := Q1
  exact r_void C P1 (by decide +kernel) (le_ _ _ rfl) (le_ _ _ rfl) ⟨rfl, ⟨K1, S1⟩⟩
theorem k_mn2_ef (m : MethodId)  : entryFrame m #[.int (2 : Int32), .int (2 : Int32)] 2 = fr m 0 [.val (.int (2 : Int32)), .val (.int (2 : Int32))] [] := by first | (simp [entryFrame, mkF, argsToLocals, Value.category]; done) | rfl
set_option maxRecDepth 65536 in
set_option maxHeartbeats 4000000 in
theorem k_mn2 (l : Launch) {Z : State} {a0 : Array Value} {n0 : Nat} {h : Heap} {z : Int32} {fm : Value} (wd : Wd Z a0 z fm)   (O : Old Z n0 h)  :
    Con l Z consts_1 n0 [] (⟨"java/lang/Math", "min", "(II)I"⟩ : MethodName) jdk_29_method_69_code 2 (some .int) ({ frames := 0, cells := 0, slots := 0, locals := 0 } : Room) #[.int (2 : Int32), .int (2 : Int32)] h (Ret1 fun v h' => v = .int 2 ∧ h = h') := by
  obtain ⟨hw, hEL, Sz, hz, SA, SH, SL, SF, hfm⟩ := id wd
  refine Con.intro (by decide +kernel) O hEL ?_
  intro p e s m below meth c T C hs P
  have C : Ctx Z a0 consts_1 p s m meth c "java/lang/Math" "min" jdk_29_method_69_code 2 (some .int) := C
  refine Run.cast (k_mn2_ef m) ?_
  refine blk C P [.iload_n 0, .iload_n 1] (by decide +kernel) (pc' := 2) (L' := [.val (.int (2 : Int32)), .val (.int (2 : Int32))]) (S' := [.int (2 : Int32), .int (2 : Int32)]) rfl ?_
  refine b_cmN C P (cd := .gt) (o := 7) (by decide +kernel) (pc' := 5) rfl (by decide : ¬ (2 : Int32) < (2 : Int32)) ?_
  refine blk C P [.iload_n 0] (by decide +kernel) (pc' := 6) (L' := [.val (.int (2 : Int32)), .val (.int (2 : Int32))]) (S' := [.int (2 : Int32)]) rfl ?_
  refine b_goto C P (o := 4) (by decide +kernel) (pc' := 10) (by decide) ?_
  exact r_int C P (ty := .int) (by simp) rfl (by decide +kernel) (le_ _ _ rfl) (le_ _ _ rfl) ⟨_, rfl, ⟨rfl, rfl⟩⟩
theorem k_ln2_ef (m : MethodId) (t : Addr) (x0 x1 : Int32) : entryFrame m #[.ref t] 1 = fr m 0 [.val (.ref t)] [] := by first | (simp [entryFrame, mkF, argsToLocals, Value.category]; done) | rfl
set_option maxRecDepth 65536 in
set_option maxHeartbeats 4000000 in
theorem k_ln2 (l : Launch) {Z : State} {a0 : Array Value} {n0 : Nat} {h : Heap} {z : Int32} {fm : Value} (wd : Wd Z a0 z fm) (t : Addr) (x0 x1 : Int32)  (O : Old Z n0 h) (B : Bys Z n0 h t (wide [x0, x1])) :
    Con l Z consts_1 n0 [] (⟨"java/lang/StringUTF16", "length", "([B)I"⟩ : MethodName) jdk_52_method_6_code 1 (some .int) ({ frames := 0, cells := 0, slots := 0, locals := 0 } : Room) #[.ref t] h (Ret1 fun v h' => v = .int 2 ∧ h = h') := by
  obtain ⟨hw, hEL, Sz, hz, SA, SH, SL, SF, hfm⟩ := id wd
  refine Con.intro (plainFor_of_name (by first | (simp [plainName, overriddenIn]; done) | decide +kernel)) O hEL ?_
  intro p e s m below meth c T C hs P
  have C : Ctx Z a0 consts_1 p s m meth c "java/lang/StringUTF16" "length" jdk_52_method_6_code 1 (some .int) := C
  refine Run.cast (k_ln2_ef m t x0 x1) ?_
  refine blk C P [.aload_n 0] (by decide +kernel) (pc' := 1) (L' := [.val (.ref t)]) (S' := [.ref t]) rfl ?_
  refine s_alenB C P 4 (by decide +kernel) B rfl (pc' := 2) rfl ?_
  refine blk C P [.iconst 1, .ishr] (by decide +kernel) (pc' := 4) (L' := [.val (.ref t)]) (S' := [.int (2 : Int32)]) rfl ?_
  exact r_int C P (ty := .int) (by simp) rfl (by decide +kernel) (le_ _ _ rfl) (le_ _ _ rfl) ⟨_, rfl, ⟨rfl, rfl⟩⟩
theorem k_cf2_ef (m : MethodId)  {fm : Value} (hfm : fm.isRef = true) : entryFrame m #[.int (0 : Int32), .int (2 : Int32), .int (2 : Int32), fm] 4 = fr m 0 [.val (.int (0 : Int32)), .val (.int (2 : Int32)), .val (.int (2 : Int32)), .val (fm)] [] := by rcases ref_cases hfm with rfl | ⟨q, rfl⟩ <;> first | (simp [entryFrame, mkF, argsToLocals, Value.category]; done) | rfl
set_option maxRecDepth 65536 in
set_option maxHeartbeats 4000000 in
theorem k_cf2 (l : Launch) {Z : State} {a0 : Array Value} {n0 : Nat} {h : Heap} {z : Int32} {fm : Value} (wd : Wd Z a0 z fm)   (O : Old Z n0 h)  :
    Con l Z consts_1 n0 [] (⟨"jdk/internal/util/Preconditions", "checkFromToIndex", "(IIILjava/util/function/BiFunction;)I"⟩ : MethodName) jdk_41_method_12_code 4 (some .int) ({ frames := 0, cells := 0, slots := 0, locals := 0 } : Room) #[.int (0 : Int32), .int (2 : Int32), .int (2 : Int32), fm] h (Ret1 fun v h' => v = .int 0 ∧ h = h') := by
  obtain ⟨hw, hEL, Sz, hz, SA, SH, SL, SF, hfm⟩ := id wd
  refine Con.intro (plainFor_of_name (by first | (simp [plainName, overriddenIn]; done) | decide +kernel)) O hEL ?_
  intro p e s m below meth c T C hs P
  have C : Ctx Z a0 consts_1 p s m meth c "jdk/internal/util/Preconditions" "checkFromToIndex" jdk_41_method_12_code 4 (some .int) := C
  refine Run.cast (k_cf2_ef m hfm) ?_
  refine blk C P [.iload_n 0] (by decide +kernel) (pc' := 1) (L' := [.val (.int (0 : Int32)), .val (.int (2 : Int32)), .val (.int (2 : Int32)), .val (fm)]) (S' := [.int (0 : Int32)]) rfl ?_
  refine b_ifN C P (cd := .lt) (o := 13) (by decide +kernel) (pc' := 4) rfl (by decide : ¬ (0 : Int32) < 0) ?_
  refine blk C P [.iload_n 0, .iload_n 1] (by decide +kernel) (pc' := 6) (L' := [.val (.int (0 : Int32)), .val (.int (2 : Int32)), .val (.int (2 : Int32)), .val (fm)]) (S' := [.int (2 : Int32), .int (0 : Int32)]) rfl ?_
  refine b_cmN C P (cd := .gt) (o := 8) (by decide +kernel) (pc' := 9) rfl (by decide : ¬ (2 : Int32) < (0 : Int32)) ?_
  refine blk C P [.iload_n 1, .iload_n 2] (by decide +kernel) (pc' := 11) (L' := [.val (.int (0 : Int32)), .val (.int (2 : Int32)), .val (.int (2 : Int32)), .val (fm)]) (S' := [.int (2 : Int32), .int (2 : Int32)]) rfl ?_
  refine b_cmY C P (cd := .le) (o := 11) (by decide +kernel) (pc' := 22) (by decide) (by decide : ¬ (2 : Int32) < (2 : Int32)) ?_
  refine blk C P [.iload_n 0] (by decide +kernel) (pc' := 23) (L' := [.val (.int (0 : Int32)), .val (.int (2 : Int32)), .val (.int (2 : Int32)), .val (fm)]) (S' := [.int (0 : Int32)]) rfl ?_
  exact r_int C P (ty := .int) (by simp) rfl (by decide +kernel) (le_ _ _ rfl) (le_ _ _ rfl) ⟨_, rfl, ⟨rfl, rfl⟩⟩
theorem k_sc2_ef (m : MethodId)  : entryFrame m #[.int (0 : Int32), .int (2 : Int32), .int (2 : Int32)] 3 = fr m 0 [.val (.int (0 : Int32)), .val (.int (2 : Int32)), .val (.int (2 : Int32))] [] := by first | (simp [entryFrame, mkF, argsToLocals, Value.category]; done) | rfl
set_option maxRecDepth 65536 in
set_option maxHeartbeats 4000000 in
theorem k_sc2 (l : Launch) {Z : State} {a0 : Array Value} {n0 : Nat} {h : Heap} {z : Int32} {fm : Value} (wd : Wd Z a0 z fm)   (O : Old Z n0 h)  :
    Con l Z consts_1 n0 [] (⟨"java/lang/String", "checkBoundsBeginEnd", "(III)V"⟩ : MethodName) jdk_42_method_158_code 3 none ({ frames := 1, cells := 0, slots := 0, locals := 15 } : Room) #[.int (0 : Int32), .int (2 : Int32), .int (2 : Int32)] h (Ret0 fun h' => h = h') := by
  obtain ⟨hw, hEL, Sz, hz, SA, SH, SL, SF, hfm⟩ := id wd
  refine Con.intro (plainFor_of_name (by first | (simp [plainName, overriddenIn]; done) | decide +kernel)) O hEL ?_
  intro p e s m below meth c T C hs P
  have C : Ctx Z a0 consts_1 p s m meth c "java/lang/String" "checkBoundsBeginEnd" jdk_42_method_158_code 3 none := C
  refine Run.cast (k_sc2_ef m) ?_
  refine blk C P [.iload_n 0, .iload_n 1, .iload_n 2] (by decide +kernel) (pc' := 3) (L' := [.val (.int (0 : Int32)), .val (.int (2 : Int32)), .val (.int (2 : Int32))]) (S' := [.int (2 : Int32), .int (2 : Int32), .int (0 : Int32)]) rfl ?_
  refine s_gets C P (idx := 1053) (by decide +kernel) (hw _ (List.mem_of_getElem? (i := 121) rfl)) SF (pc' := 6) rfl (fun T1 P1 => ?_)
  refine c_static C P1 (idx := 1062) (y := (⟨"jdk/internal/util/Preconditions", "checkFromToIndex", "(IIILjava/util/function/BiFunction;)I"⟩ : MethodName)) (ybytes := jdk_41_method_12_code) (ymax := 4) (yret := (some .int)) (yrm := ({ frames := 0, cells := 0, slots := 0, locals := 0 } : Room)) (by decide +kernel) (hw _ (List.mem_of_getElem? (i := 123) rfl)) (hw _ (List.mem_of_getElem? (i := 124) rfl)) (hw _ (List.mem_of_getElem? (i := 122) rfl)) (hw _ (List.mem_of_getElem? (i := 125) rfl)) (by decide) [.int (0 : Int32), .int (2 : Int32), .int (2 : Int32), fm] [] (k_cf2 l wd  P1.old ) (le_ _ _ rfl) (W := 0) (le_ _ _ rfl) (by decide +kernel : parseMethodDescriptor "(IIILjava/util/function/BiFunction;)I" = some ⟨[.int, .int, .int, (.object "java/util/function/BiFunction")], some .int⟩) rfl rfl rfl (le_ _ _ rfl) (le_ _ _ rfl) (le_ _ _ rfl) (pc' := 9) rfl (fun T2 h2 v2 P2 Q2 => ?_)
  replace P2 := P2.more (k' := 0) (n' := 0) (le_ _ _ rfl) (le_ _ _ rfl)
  obtain ⟨rfl, rfl⟩ := Q2
  refine blk C P2 [.pop] (by decide +kernel) (pc' := 10) (L' := [.val (.int (0 : Int32)), .val (.int (2 : Int32)), .val (.int (2 : Int32))]) (S' := []) rfl ?_
  exact r_void C P2 (by decide +kernel) (le_ _ _ rfl) (le_ _ _ rfl) ⟨rfl, rfl⟩
theorem k_cb2_ef (m : MethodId) (t : Addr) (x0 x1 : Int32) : entryFrame m #[.int (0 : Int32), .int (2 : Int32), .ref t] 3 = fr m 0 [.val (.int (0 : Int32)), .val (.int (2 : Int32)), .val (.ref t)] [] := by first | (simp [entryFrame, mkF, argsToLocals, Value.category]; done) | rfl
set_option maxRecDepth 65536 in
set_option maxHeartbeats 4000000 in
theorem k_cb2 (l : Launch) {Z : State} {a0 : Array Value} {n0 : Nat} {h : Heap} {z : Int32} {fm : Value} (wd : Wd Z a0 z fm) (t : Addr) (x0 x1 : Int32)  (O : Old Z n0 h) (B : Bys Z n0 h t (wide [x0, x1])) :
    Con l Z consts_1 n0 [] (⟨"java/lang/StringUTF16", "checkBoundsBeginEnd", "(II[B)V"⟩ : MethodName) jdk_52_method_93_code 3 none ({ frames := 2, cells := 0, slots := 0, locals := 29 } : Room) #[.int (0 : Int32), .int (2 : Int32), .ref t] h (Ret0 fun h' => h = h') := by
  obtain ⟨hw, hEL, Sz, hz, SA, SH, SL, SF, hfm⟩ := id wd
  refine Con.intro (plainFor_of_name (by first | (simp [plainName, overriddenIn]; done) | decide +kernel)) O hEL ?_
  intro p e s m below meth c T C hs P
  have C : Ctx Z a0 consts_1 p s m meth c "java/lang/StringUTF16" "checkBoundsBeginEnd" jdk_52_method_93_code 3 none := C
  refine Run.cast (k_cb2_ef m t x0 x1) ?_
  refine blk C P [.iload_n 0, .iload_n 1, .aload_n 2] (by decide +kernel) (pc' := 3) (L' := [.val (.int (0 : Int32)), .val (.int (2 : Int32)), .val (.ref t)]) (S' := [.ref t, .int (2 : Int32), .int (0 : Int32)]) rfl ?_
  refine c_static C P (idx := 48) (y := (⟨"java/lang/StringUTF16", "length", "([B)I"⟩ : MethodName)) (ybytes := jdk_52_method_6_code) (ymax := 1) (yret := (some .int)) (yrm := ({ frames := 0, cells := 0, slots := 0, locals := 0 } : Room)) (by decide +kernel) (hw _ (List.mem_of_getElem? (i := 115) rfl)) (hw _ (List.mem_of_getElem? (i := 116) rfl)) (hw _ (List.mem_of_getElem? (i := 71) rfl)) (hw _ (List.mem_of_getElem? (i := 117) rfl)) (by decide) [.ref t] [.int (2 : Int32), .int (0 : Int32)] (k_ln2 l wd t x0 x1 P.old B) (le_ _ _ rfl) (W := 2) (le_ _ _ rfl) (by decide +kernel : parseMethodDescriptor "([B)I" = some ⟨[(.array .byte)], some .int⟩) rfl rfl rfl (le_ _ _ rfl) (le_ _ _ rfl) (le_ _ _ rfl) (pc' := 6) rfl (fun T1 h1 v1 P1 Q1 => ?_)
  replace P1 := P1.more (k' := 0) (n' := 0) (le_ _ _ rfl) (le_ _ _ rfl)
  obtain ⟨rfl, rfl⟩ := Q1
  refine c_static0 C P1 (idx := 241) (y := (⟨"java/lang/String", "checkBoundsBeginEnd", "(III)V"⟩ : MethodName)) (ybytes := jdk_42_method_158_code) (ymax := 3) (yrm := ({ frames := 1, cells := 0, slots := 0, locals := 15 } : Room)) (by decide +kernel) (hw _ (List.mem_of_getElem? (i := 118) rfl)) (hw _ (List.mem_of_getElem? (i := 119) rfl)) (hw _ (List.mem_of_getElem? (i := 8) rfl)) (hw _ (List.mem_of_getElem? (i := 120) rfl)) (by decide) [.int (0 : Int32), .int (2 : Int32), .int (2 : Int32)] [] (k_sc2 l wd  P1.old ) (le_ _ _ rfl) (W := 0) (le_ _ _ rfl) (by decide +kernel : parseMethodDescriptor "(III)V" = some ⟨[.int, .int, .int], none⟩) rfl rfl rfl (le_ _ _ rfl) (le_ _ _ rfl) (le_ _ _ rfl) (pc' := 9) rfl (fun T2 h2 P2 Q2 => ?_)
  replace P2 := P2.more (k' := 0) (n' := 0) (le_ _ _ rfl) (le_ _ _ rfl)
  obtain rfl := Q2
  exact r_void C P2 (by decide +kernel) (le_ _ _ rfl) (le_ _ _ rfl) ⟨rfl, rfl⟩
theorem k_iu2_ef (m : MethodId) (t : Addr) (x0 x1 : Int32) : entryFrame m #[.ref t, .int (65533 : Int32), .int (0 : Int32), .int (2 : Int32)] 5 = fr m 0 [.val (.ref t), .val (.int (65533 : Int32)), .val (.int (0 : Int32)), .val (.int (2 : Int32)), .unset] [] := by first | (simp [entryFrame, mkF, argsToLocals, Value.category]; done) | rfl
set_option maxRecDepth 65536 in
set_option maxHeartbeats 4000000 in
theorem k_iu2 (l : Launch) {Z : State} {a0 : Array Value} {n0 : Nat} {h : Heap} {z : Int32} {fm : Value} (wd : Wd Z a0 z fm) (t : Addr) (x0 x1 : Int32)  (O : Old Z n0 h) (B : Bys Z n0 h t (wide [x0, x1])) (i0 : c16 x0 = x0) (i1 : c16 x1 = x1) :
    Con l Z consts_1 n0 [] (⟨"java/lang/StringUTF16", "indexOfCharUnsafe", "([BIII)I"⟩ : MethodName) jdk_52_method_48_code 5 (some .int) ({ frames := 1, cells := 0, slots := 0, locals := 13 } : Room) #[.ref t, .int (65533 : Int32), .int (0 : Int32), .int (2 : Int32)] h (Ret1 fun v h' => ∃ w, v = .int w ∧ h = h' ∧ ((¬ w < 0 ∧ Lost [x0, x1]) ∨ (w < 0 ∧ ¬ Lost [x0, x1]))) := by
  obtain ⟨hw, hEL, Sz, hz, SA, SH, SL, SF, hfm⟩ := id wd
  refine Con.intro (plainFor_of_name (by first | (simp [plainName, overriddenIn]; done) | decide +kernel)) O hEL ?_
  intro p e s m below meth c T C hs P
  have C : Ctx Z a0 consts_1 p s m meth c "java/lang/StringUTF16" "indexOfCharUnsafe" jdk_52_method_48_code 5 (some .int) := C
  refine Run.cast (k_iu2_ef m t x0 x1) ?_
  refine blk C P [.iload_n 2, .istore 4, .iload 4, .iload_n 3] (by decide +kernel) (pc' := 6) (L' := [.val (.ref t), .val (.int (65533 : Int32)), .val (.int (0 : Int32)), .val (.int (2 : Int32)), .val (.int (0 : Int32))]) (S' := [.int (2 : Int32), .int (0 : Int32)]) rfl ?_
  refine b_cmN C P (cd := .ge) (o := 22) (by decide +kernel) (pc' := 9) rfl (by decide : (0 : Int32) < (2 : Int32)) ?_
  refine blk C P [.aload_n 0, .iload 4] (by decide +kernel) (pc' := 12) (L' := [.val (.ref t), .val (.int (65533 : Int32)), .val (.int (0 : Int32)), .val (.int (2 : Int32)), .val (.int (0 : Int32))]) (S' := [.int (0 : Int32), .ref t]) rfl ?_
  refine c_static C P (idx := 71) (y := (⟨"java/lang/StringUTF16", "getChar", "([BI)C"⟩ : MethodName)) (ybytes := jdk_52_method_5_code) (ymax := 2) (yret := (some .char)) (yrm := ({ frames := 0, cells := 0, slots := 0, locals := 0 } : Room)) (by decide +kernel) (hw _ (List.mem_of_getElem? (i := 92) rfl)) (hw _ (List.mem_of_getElem? (i := 93) rfl)) (hw _ (List.mem_of_getElem? (i := 71) rfl)) (hw _ (List.mem_of_getElem? (i := 94) rfl)) (by decide) [.ref t, .int (0 : Int32)] [] (k_gc0 l wd t x0 P.old B rfl rfl i0) (le_ _ _ rfl) (W := 0) (le_ _ _ rfl) (by decide +kernel : parseMethodDescriptor "([BI)C" = some ⟨[(.array .byte), .int], some .char⟩) rfl rfl rfl (le_ _ _ rfl) (le_ _ _ rfl) (le_ _ _ rfl) (pc' := 15) rfl (fun T1 h1 v1 P1 Q1 => ?_)
  replace P1 := P1.more (k' := 0) (n' := 0) (le_ _ _ rfl) (le_ _ _ rfl)
  obtain ⟨rfl, rfl⟩ := Q1
  refine blk C P1 [.iload_n 1] (by decide +kernel) (pc' := 16) (L' := [.val (.ref t), .val (.int (65533 : Int32)), .val (.int (0 : Int32)), .val (.int (2 : Int32)), .val (.int (0 : Int32))]) (S' := [.int (65533 : Int32), .int x0]) rfl ?_
  refine b_cm C P1 (cd := .ne) (o := 6) (by decide +kernel) (pc' := 22) (by decide) (pn := 19) rfl (fun (q2 : ¬ x0 = (65533 : Int32)) => ?_) (fun (q2 : x0 = (65533 : Int32)) => ?_)
  · skip
    refine blk C P1 [.iinc 4 1] (by decide +kernel) (pc' := 25) (L' := [.val (.ref t), .val (.int (65533 : Int32)), .val (.int (0 : Int32)), .val (.int (2 : Int32)), .val (.int (1 : Int32))]) (S' := []) rfl ?_
    refine b_goto C P1 (o := -22) (by decide +kernel) (pc' := 3) (by decide) ?_
    refine blk C P1 [.iload 4, .iload_n 3] (by decide +kernel) (pc' := 6) (L' := [.val (.ref t), .val (.int (65533 : Int32)), .val (.int (0 : Int32)), .val (.int (2 : Int32)), .val (.int (1 : Int32))]) (S' := [.int (2 : Int32), .int (1 : Int32)]) rfl ?_
    refine b_cmN C P1 (cd := .ge) (o := 22) (by decide +kernel) (pc' := 9) rfl (by decide : (1 : Int32) < (2 : Int32)) ?_
    refine blk C P1 [.aload_n 0, .iload 4] (by decide +kernel) (pc' := 12) (L' := [.val (.ref t), .val (.int (65533 : Int32)), .val (.int (0 : Int32)), .val (.int (2 : Int32)), .val (.int (1 : Int32))]) (S' := [.int (1 : Int32), .ref t]) rfl ?_
    refine c_static C P1 (idx := 71) (y := (⟨"java/lang/StringUTF16", "getChar", "([BI)C"⟩ : MethodName)) (ybytes := jdk_52_method_5_code) (ymax := 2) (yret := (some .char)) (yrm := ({ frames := 0, cells := 0, slots := 0, locals := 0 } : Room)) (by decide +kernel) (hw _ (List.mem_of_getElem? (i := 92) rfl)) (hw _ (List.mem_of_getElem? (i := 93) rfl)) (hw _ (List.mem_of_getElem? (i := 71) rfl)) (hw _ (List.mem_of_getElem? (i := 94) rfl)) (by decide) [.ref t, .int (1 : Int32)] [] (k_gc1 l wd t x1 P1.old B rfl rfl i1) (le_ _ _ rfl) (W := 0) (le_ _ _ rfl) (by decide +kernel : parseMethodDescriptor "([BI)C" = some ⟨[(.array .byte), .int], some .char⟩) rfl rfl rfl (le_ _ _ rfl) (le_ _ _ rfl) (le_ _ _ rfl) (pc' := 15) rfl (fun T3 h3 v3 P3 Q3 => ?_)
    replace P3 := P3.more (k' := 0) (n' := 0) (le_ _ _ rfl) (le_ _ _ rfl)
    obtain ⟨rfl, rfl⟩ := Q3
    refine blk C P3 [.iload_n 1] (by decide +kernel) (pc' := 16) (L' := [.val (.ref t), .val (.int (65533 : Int32)), .val (.int (0 : Int32)), .val (.int (2 : Int32)), .val (.int (1 : Int32))]) (S' := [.int (65533 : Int32), .int x1]) rfl ?_
    refine b_cm C P3 (cd := .ne) (o := 6) (by decide +kernel) (pc' := 22) (by decide) (pn := 19) rfl (fun (q4 : ¬ x1 = (65533 : Int32)) => ?_) (fun (q4 : x1 = (65533 : Int32)) => ?_)
    · skip
      refine blk C P3 [.iinc 4 1] (by decide +kernel) (pc' := 25) (L' := [.val (.ref t), .val (.int (65533 : Int32)), .val (.int (0 : Int32)), .val (.int (2 : Int32)), .val (.int (2 : Int32))]) (S' := []) rfl ?_
      refine b_goto C P3 (o := -22) (by decide +kernel) (pc' := 3) (by decide) ?_
      refine blk C P3 [.iload 4, .iload_n 3] (by decide +kernel) (pc' := 6) (L' := [.val (.ref t), .val (.int (65533 : Int32)), .val (.int (0 : Int32)), .val (.int (2 : Int32)), .val (.int (2 : Int32))]) (S' := [.int (2 : Int32), .int (2 : Int32)]) rfl ?_
      refine b_cmY C P3 (cd := .ge) (o := 22) (by decide +kernel) (pc' := 28) (by decide) (by decide : ¬ (2 : Int32) < (2 : Int32)) ?_
      refine blk C P3 [.iconst (-1)] (by decide +kernel) (pc' := 29) (L' := [.val (.ref t), .val (.int (65533 : Int32)), .val (.int (0 : Int32)), .val (.int (2 : Int32)), .val (.int (2 : Int32))]) (S' := [.int (-1 : Int32)]) rfl ?_
      exact r_int C P3 (ty := .int) (by simp) rfl (by decide +kernel) (le_ _ _ rfl) (le_ _ _ rfl) ⟨_, rfl, ⟨_, rfl, rfl, Or.inr ⟨by decide, (lostN q2 (lostN q4 lost0))⟩⟩⟩
    · skip
      refine blk C P3 [.iload 4] (by decide +kernel) (pc' := 21) (L' := [.val (.ref t), .val (.int (65533 : Int32)), .val (.int (0 : Int32)), .val (.int (2 : Int32)), .val (.int (1 : Int32))]) (S' := [.int (1 : Int32)]) rfl ?_
      exact r_int C P3 (ty := .int) (by simp) rfl (by decide +kernel) (le_ _ _ rfl) (le_ _ _ rfl) ⟨_, rfl, ⟨_, rfl, rfl, Or.inl ⟨by decide, (lostS (lostY q4))⟩⟩⟩
  · skip
    refine blk C P1 [.iload 4] (by decide +kernel) (pc' := 21) (L' := [.val (.ref t), .val (.int (65533 : Int32)), .val (.int (0 : Int32)), .val (.int (2 : Int32)), .val (.int (0 : Int32))]) (S' := [.int (0 : Int32)]) rfl ?_
    exact r_int C P1 (ty := .int) (by simp) rfl (by decide +kernel) (le_ _ _ rfl) (le_ _ _ rfl) ⟨_, rfl, ⟨_, rfl, rfl, Or.inl ⟨by decide, (lostY q2)⟩⟩⟩
theorem k_ic2_ef (m : MethodId) (t : Addr) (x0 x1 : Int32) : entryFrame m #[.ref t, .int (65533 : Int32), .int (0 : Int32), .int (2 : Int32)] 4 = fr m 0 [.val (.ref t), .val (.int (65533 : Int32)), .val (.int (0 : Int32)), .val (.int (2 : Int32))] [] := by first | (simp [entryFrame, mkF, argsToLocals, Value.category]; done) | rfl
set_option maxRecDepth 65536 in
set_option maxHeartbeats 4000000 in
theorem k_ic2 (l : Launch) {Z : State} {a0 : Array Value} {n0 : Nat} {h : Heap} {z : Int32} {fm : Value} (wd : Wd Z a0 z fm) (t : Addr) (x0 x1 : Int32)  (O : Old Z n0 h) (B : Bys Z n0 h t (wide [x0, x1])) (i0 : c16 x0 = x0) (i1 : c16 x1 = x1) :
    Con l Z consts_1 n0 [] (⟨"java/lang/StringUTF16", "indexOfChar", "([BIII)I"⟩ : MethodName) jdk_52_method_47_code 4 (some .int) ({ frames := 3, cells := 0, slots := 0, locals := 43 } : Room) #[.ref t, .int (65533 : Int32), .int (0 : Int32), .int (2 : Int32)] h (Ret1 fun v h' => ∃ w, v = .int w ∧ h = h' ∧ ((¬ w < 0 ∧ Lost [x0, x1]) ∨ (w < 0 ∧ ¬ Lost [x0, x1]))) := by
  obtain ⟨hw, hEL, Sz, hz, SA, SH, SL, SF, hfm⟩ := id wd
  refine Con.intro (plainFor_of_name (by first | (simp [plainName, overriddenIn]; done) | decide +kernel)) O hEL ?_
  intro p e s m below meth c T C hs P
  have C : Ctx Z a0 consts_1 p s m meth c "java/lang/StringUTF16" "indexOfChar" jdk_52_method_47_code 4 (some .int) := C
  refine Run.cast (k_ic2_ef m t x0 x1) ?_
  refine blk C P [.iload_n 2, .iload_n 3, .aload_n 0] (by decide +kernel) (pc' := 3) (L' := [.val (.ref t), .val (.int (65533 : Int32)), .val (.int (0 : Int32)), .val (.int (2 : Int32))]) (S' := [.ref t, .int (2 : Int32), .int (0 : Int32)]) rfl ?_
  refine c_static0 C P (idx := 96) (y := (⟨"java/lang/StringUTF16", "checkBoundsBeginEnd", "(II[B)V"⟩ : MethodName)) (ybytes := jdk_52_method_93_code) (ymax := 3) (yrm := ({ frames := 2, cells := 0, slots := 0, locals := 29 } : Room)) (by decide +kernel) (hw _ (List.mem_of_getElem? (i := 112) rfl)) (hw _ (List.mem_of_getElem? (i := 113) rfl)) (hw _ (List.mem_of_getElem? (i := 71) rfl)) (hw _ (List.mem_of_getElem? (i := 114) rfl)) (by decide) [.int (0 : Int32), .int (2 : Int32), .ref t] [] (k_cb2 l wd t x0 x1 P.old B) (le_ _ _ rfl) (W := 0) (le_ _ _ rfl) (by decide +kernel : parseMethodDescriptor "(II[B)V" = some ⟨[.int, .int, (.array .byte)], none⟩) rfl rfl rfl (le_ _ _ rfl) (le_ _ _ rfl) (le_ _ _ rfl) (pc' := 6) rfl (fun T1 h1 P1 Q1 => ?_)
  replace P1 := P1.more (k' := 0) (n' := 0) (le_ _ _ rfl) (le_ _ _ rfl)
  obtain rfl := Q1
  refine blk C P1 [.aload_n 0, .iload_n 1, .iload_n 2, .iload_n 3] (by decide +kernel) (pc' := 10) (L' := [.val (.ref t), .val (.int (65533 : Int32)), .val (.int (0 : Int32)), .val (.int (2 : Int32))]) (S' := [.int (2 : Int32), .int (0 : Int32), .int (65533 : Int32), .ref t]) rfl ?_
  refine c_static C P1 (idx := 244) (y := (⟨"java/lang/StringUTF16", "indexOfCharUnsafe", "([BIII)I"⟩ : MethodName)) (ybytes := jdk_52_method_48_code) (ymax := 5) (yret := (some .int)) (yrm := ({ frames := 1, cells := 0, slots := 0, locals := 13 } : Room)) (by decide +kernel) (hw _ (List.mem_of_getElem? (i := 126) rfl)) (hw _ (List.mem_of_getElem? (i := 127) rfl)) (hw _ (List.mem_of_getElem? (i := 71) rfl)) (hw _ (List.mem_of_getElem? (i := 128) rfl)) (by decide) [.ref t, .int (65533 : Int32), .int (0 : Int32), .int (2 : Int32)] [] (k_iu2 l wd t x0 x1 P1.old B i0 i1) (le_ _ _ rfl) (W := 0) (le_ _ _ rfl) (by decide +kernel : parseMethodDescriptor "([BIII)I" = some ⟨[(.array .byte), .int, .int, .int], some .int⟩) rfl rfl rfl (le_ _ _ rfl) (le_ _ _ rfl) (le_ _ _ rfl) (pc' := 13) rfl (fun T2 h2 v2 P2 Q2 => ?_)
  replace P2 := P2.more (k' := 0) (n' := 0) (le_ _ _ rfl) (le_ _ _ rfl)
  obtain ⟨w2, rfl, rfl, Q2⟩ := Q2
  exact r_int C P2 (ty := .int) (by simp) rfl (by decide +kernel) (le_ _ _ rfl) (le_ _ _ rfl) ⟨_, rfl, ⟨_, rfl, rfl, Q2⟩⟩
theorem k_io2_ef (m : MethodId) (t : Addr) (x0 x1 : Int32) : entryFrame m #[.ref t, .int (65533 : Int32), .int (0 : Int32), .int (2 : Int32)] 4 = fr m 0 [.val (.ref t), .val (.int (65533 : Int32)), .val (.int (0 : Int32)), .val (.int (2 : Int32))] [] := by first | (simp [entryFrame, mkF, argsToLocals, Value.category]; done) | rfl
set_option maxRecDepth 65536 in
set_option maxHeartbeats 4000000 in
theorem k_io2 (l : Launch) {Z : State} {a0 : Array Value} {n0 : Nat} {h : Heap} {z : Int32} {fm : Value} (wd : Wd Z a0 z fm) (t : Addr) (x0 x1 : Int32)  (O : Old Z n0 h) (B : Bys Z n0 h t (wide [x0, x1])) (i0 : c16 x0 = x0) (i1 : c16 x1 = x1) :
    Con l Z consts_1 n0 [] (⟨"java/lang/StringUTF16", "indexOf", "([BIII)I"⟩ : MethodName) jdk_52_method_40_code 4 (some .int) ({ frames := 4, cells := 0, slots := 0, locals := 58 } : Room) #[.ref t, .int (65533 : Int32), .int (0 : Int32), .int (2 : Int32)] h (Ret1 fun v h' => ∃ w, v = .int w ∧ h = h' ∧ ((¬ w < 0 ∧ Lost [x0, x1]) ∨ (w < 0 ∧ ¬ Lost [x0, x1]))) := by
  obtain ⟨hw, hEL, Sz, hz, SA, SH, SL, SF, hfm⟩ := id wd
  refine Con.intro (plainFor_of_name (by first | (simp [plainName, overriddenIn]; done) | decide +kernel)) O hEL ?_
  intro p e s m below meth c T C hs P
  have C : Ctx Z a0 consts_1 p s m meth c "java/lang/StringUTF16" "indexOf" jdk_52_method_40_code 4 (some .int) := C
  refine Run.cast (k_io2_ef m t x0 x1) ?_
  refine blk C P [.iload_n 2, .iconst 0] (by decide +kernel) (pc' := 2) (L' := [.val (.ref t), .val (.int (65533 : Int32)), .val (.int (0 : Int32)), .val (.int (2 : Int32))]) (S' := [.int (0 : Int32), .int (0 : Int32)]) rfl ?_
  refine c_static C P (idx := 224) (y := (⟨"java/lang/Math", "max", "(II)I"⟩ : MethodName)) (ybytes := jdk_29_method_65_code) (ymax := 2) (yret := (some .int)) (yrm := ({ frames := 0, cells := 0, slots := 0, locals := 0 } : Room)) (by decide +kernel) (hw _ (List.mem_of_getElem? (i := 101) rfl)) (hw _ (List.mem_of_getElem? (i := 102) rfl)) (hw _ (List.mem_of_getElem? (i := 103) rfl)) (hw _ (List.mem_of_getElem? (i := 104) rfl)) (by decide) [.int (0 : Int32), .int (0 : Int32)] [] (k_mx l wd  P.old ) (le_ _ _ rfl) (W := 0) (le_ _ _ rfl) (by decide +kernel : parseMethodDescriptor "(II)I" = some ⟨[.int, .int], some .int⟩) rfl rfl rfl (le_ _ _ rfl) (le_ _ _ rfl) (le_ _ _ rfl) (pc' := 5) rfl (fun T1 h1 v1 P1 Q1 => ?_)
  replace P1 := P1.more (k' := 0) (n' := 0) (le_ _ _ rfl) (le_ _ _ rfl)
  obtain ⟨rfl, rfl⟩ := Q1
  refine blk C P1 [.istore_n 2, .iload_n 3, .aload_n 0] (by decide +kernel) (pc' := 8) (L' := [.val (.ref t), .val (.int (65533 : Int32)), .val (.int (0 : Int32)), .val (.int (2 : Int32))]) (S' := [.ref t, .int (2 : Int32)]) rfl ?_
  refine s_alenB C P1 4 (by decide +kernel) B rfl (pc' := 9) rfl ?_
  refine blk C P1 [.iconst 1, .ishr] (by decide +kernel) (pc' := 11) (L' := [.val (.ref t), .val (.int (65533 : Int32)), .val (.int (0 : Int32)), .val (.int (2 : Int32))]) (S' := [.int (2 : Int32), .int (2 : Int32)]) rfl ?_
  refine c_static C P1 (idx := 183) (y := (⟨"java/lang/Math", "min", "(II)I"⟩ : MethodName)) (ybytes := jdk_29_method_69_code) (ymax := 2) (yret := (some .int)) (yrm := ({ frames := 0, cells := 0, slots := 0, locals := 0 } : Room)) (by decide +kernel) (hw _ (List.mem_of_getElem? (i := 105) rfl)) (hw _ (List.mem_of_getElem? (i := 106) rfl)) (hw _ (List.mem_of_getElem? (i := 103) rfl)) (hw _ (List.mem_of_getElem? (i := 107) rfl)) (by decide) [.int (2 : Int32), .int (2 : Int32)] [] (k_mn2 l wd  P1.old ) (le_ _ _ rfl) (W := 0) (le_ _ _ rfl) (by decide +kernel : parseMethodDescriptor "(II)I" = some ⟨[.int, .int], some .int⟩) rfl rfl rfl (le_ _ _ rfl) (le_ _ _ rfl) (le_ _ _ rfl) (pc' := 14) rfl (fun T2 h2 v2 P2 Q2 => ?_)
  replace P2 := P2.more (k' := 0) (n' := 0) (le_ _ _ rfl) (le_ _ _ rfl)
  obtain ⟨rfl, rfl⟩ := Q2
  refine blk C P2 [.istore_n 3, .iload_n 2, .iload_n 3] (by decide +kernel) (pc' := 17) (L' := [.val (.ref t), .val (.int (65533 : Int32)), .val (.int (0 : Int32)), .val (.int (2 : Int32))]) (S' := [.int (2 : Int32), .int (0 : Int32)]) rfl ?_
  refine b_cmY C P2 (cd := .lt) (o := 5) (by decide +kernel) (pc' := 22) (by decide) (by decide : (0 : Int32) < (2 : Int32)) ?_
  refine blk C P2 [.iload_n 1] (by decide +kernel) (pc' := 23) (L' := [.val (.ref t), .val (.int (65533 : Int32)), .val (.int (0 : Int32)), .val (.int (2 : Int32))]) (S' := [.int (65533 : Int32)]) rfl ?_
  refine s_ldcI C P2 (idx := 227) (by decide +kernel) (hw _ (List.mem_of_getElem? (i := 108) rfl)) (pc' := 25) rfl ?_
  refine b_cmN C P2 (cd := .ge) (o := 11) (by decide +kernel) (pc' := 28) rfl (by decide : (65533 : Int32) < (65536 : Int32)) ?_
  refine blk C P2 [.aload_n 0, .iload_n 1, .iload_n 2, .iload_n 3] (by decide +kernel) (pc' := 32) (L' := [.val (.ref t), .val (.int (65533 : Int32)), .val (.int (0 : Int32)), .val (.int (2 : Int32))]) (S' := [.int (2 : Int32), .int (0 : Int32), .int (65533 : Int32), .ref t]) rfl ?_
  refine c_static C P2 (idx := 228) (y := (⟨"java/lang/StringUTF16", "indexOfChar", "([BIII)I"⟩ : MethodName)) (ybytes := jdk_52_method_47_code) (ymax := 4) (yret := (some .int)) (yrm := ({ frames := 3, cells := 0, slots := 0, locals := 43 } : Room)) (by decide +kernel) (hw _ (List.mem_of_getElem? (i := 109) rfl)) (hw _ (List.mem_of_getElem? (i := 110) rfl)) (hw _ (List.mem_of_getElem? (i := 71) rfl)) (hw _ (List.mem_of_getElem? (i := 111) rfl)) (by decide) [.ref t, .int (65533 : Int32), .int (0 : Int32), .int (2 : Int32)] [] (k_ic2 l wd t x0 x1 P2.old B i0 i1) (le_ _ _ rfl) (W := 0) (le_ _ _ rfl) (by decide +kernel : parseMethodDescriptor "([BIII)I" = some ⟨[(.array .byte), .int, .int, .int], some .int⟩) rfl rfl rfl (le_ _ _ rfl) (le_ _ _ rfl) (le_ _ _ rfl) (pc' := 35) rfl (fun T3 h3 v3 P3 Q3 => ?_)
  replace P3 := P3.more (k' := 0) (n' := 0) (le_ _ _ rfl) (le_ _ _ rfl)
  obtain ⟨w3, rfl, rfl, Q3⟩ := Q3
  exact r_int C P3 (ty := .int) (by simp) rfl (by decide +kernel) (le_ _ _ rfl) (le_ _ _ rfl) ⟨_, rfl, ⟨_, rfl, rfl, Q3⟩⟩
theorem k_sw2_ef (m : MethodId) (a : Addr) (x0 x1 : Int32) : entryFrame m #[.ref a] 1 = fr m 0 [.val (.ref a)] [] := by first | (simp [entryFrame, mkF, argsToLocals, Value.category]; done) | rfl
set_option maxRecDepth 65536 in
set_option maxHeartbeats 4000000 in
theorem k_sw2 (l : Launch) {Z : State} {a0 : Array Value} {n0 : Nat} {h : Heap} {z : Int32} {fm : Value} (wd : Wd Z a0 z fm) (a : Addr) (x0 x1 : Int32)  (O : Old Z n0 h) (S : Str16 Z n0 h a [x0, x1]) :
    Con l Z consts_1 n0 [] (⟨"java/lang/String", "length", "()I"⟩ : MethodName) jdk_42_method_54_code 1 (some .int) ({ frames := 1, cells := 0, slots := 0, locals := 13 } : Room) #[.ref a] h (Ret1 fun v h' => v = .int 2 ∧ h = h') := by
  obtain ⟨hw, hEL, Sz, hz, SA, SH, SL, SF, hfm⟩ := id wd
  obtain ⟨S1, S2, t, S3, S4⟩ := id S
  refine Con.intro (plainFor_of_name (by first | (simp [plainName, overriddenIn]; done) | decide +kernel)) O hEL ?_
  intro p e s m below meth c T C hs P
  have C : Ctx Z a0 consts_1 p s m meth c "java/lang/String" "length" jdk_42_method_54_code 1 (some .int) := C
  refine Run.cast (k_sw2_ef m a x0 x1) ?_
  refine blk C P [.aload_n 0] (by decide +kernel) (pc' := 1) (L' := [.val (.ref a)]) (S' := [.ref a]) rfl ?_
  refine s_getf C P (idx := 9) (by decide +kernel) (hw _ (List.mem_of_getElem? (i := 29) rfl)) S3 (pc' := 4) rfl (fun T1 P1 => ?_)
  refine s_alenB C P1 4 (by decide +kernel) S4 rfl (pc' := 5) rfl ?_
  refine blk C P1 [.aload_n 0] (by decide +kernel) (pc' := 6) (L' := [.val (.ref a)]) (S' := [.ref a, .int (4 : Int32)]) rfl ?_
  refine c_virtual C P1 (idx := 335) (y := (⟨"java/lang/String", "coder", "()B"⟩ : MethodName)) (K0 := "java/lang/String") (ybytes := jdk_42_method_152_code) (ymax := 1) (yret := (some .byte)) (yrm := ({ frames := 0, cells := 0, slots := 0, locals := 0 } : Room)) (by decide +kernel) (hw _ (List.mem_of_getElem? (i := 57) rfl)) (hw _ (List.mem_of_getElem? (i := 58) rfl)) (hw _ (List.mem_of_getElem? (i := 60) rfl)) (hw _ (List.mem_of_getElem? (i := 59) rfl)) (hw _ (List.mem_of_getElem? (i := 8) rfl)) (hw _ (List.mem_of_getElem? (i := 61) rfl)) (by decide) S.exa [] [.int (4 : Int32)] (k_co1 l wd a P1.old S2) (le_ _ _ rfl) (W := 1) (le_ _ _ rfl) (by decide +kernel : parseMethodDescriptor "()B" = some ⟨[], some .byte⟩) rfl rfl rfl (le_ _ _ rfl) (le_ _ _ rfl) (le_ _ _ rfl) (pc' := 9) rfl (fun T2 h2 v2 P2 Q2 => ?_)
  replace P2 := P2.more (k' := 0) (n' := 0) (le_ _ _ rfl) (le_ _ _ rfl)
  obtain ⟨rfl, rfl⟩ := Q2
  refine blk C P2 [.ishr] (by decide +kernel) (pc' := 10) (L' := [.val (.ref a)]) (S' := [.int (2 : Int32)]) rfl ?_
  exact r_int C P2 (ty := .int) (by simp) rfl (by decide +kernel) (le_ _ _ rfl) (le_ _ _ rfl) ⟨_, rfl, ⟨rfl, rfl⟩⟩
theorem k_iw2_ef (m : MethodId) (a : Addr) (x0 x1 : Int32) : entryFrame m #[.ref a, .int (65533 : Int32), .int (0 : Int32)] 3 = fr m 0 [.val (.ref a), .val (.int (65533 : Int32)), .val (.int (0 : Int32))] [] := by first | (simp [entryFrame, mkF, argsToLocals, Value.category]; done) | rfl
set_option maxRecDepth 65536 in
set_option maxHeartbeats 4000000 in
theorem k_iw2 (l : Launch) {Z : State} {a0 : Array Value} {n0 : Nat} {h : Heap} {z : Int32} {fm : Value} (wd : Wd Z a0 z fm) (a : Addr) (x0 x1 : Int32)  (O : Old Z n0 h) (S : Str16 Z n0 h a [x0, x1]) (i0 : c16 x0 = x0) (i1 : c16 x1 = x1) :
    Con l Z consts_1 n0 [] (⟨"java/lang/String", "indexOf", "(II)I"⟩ : MethodName) jdk_42_method_80_code 3 (some .int) ({ frames := 5, cells := 0, slots := 0, locals := 73 } : Room) #[.ref a, .int (65533 : Int32), .int (0 : Int32)] h (Ret1 fun v h' => ∃ w, v = .int w ∧ h = h' ∧ ((¬ w < 0 ∧ Lost [x0, x1]) ∨ (w < 0 ∧ ¬ Lost [x0, x1]))) := by
  obtain ⟨hw, hEL, Sz, hz, SA, SH, SL, SF, hfm⟩ := id wd
  obtain ⟨S1, S2, t, S3, S4⟩ := id S
  refine Con.intro (plainFor_of_name (by first | (simp [plainName, overriddenIn]; done) | decide +kernel)) O hEL ?_
  intro p e s m below meth c T C hs P
  have C : Ctx Z a0 consts_1 p s m meth c "java/lang/String" "indexOf" jdk_42_method_80_code 3 (some .int) := C
  refine Run.cast (k_iw2_ef m a x0 x1) ?_
  refine blk C P [.aload_n 0] (by decide +kernel) (pc' := 1) (L' := [.val (.ref a), .val (.int (65533 : Int32)), .val (.int (0 : Int32))]) (S' := [.ref a]) rfl ?_
  refine c_virtual C P (idx := 492) (y := (⟨"java/lang/String", "isLatin1", "()Z"⟩ : MethodName)) (K0 := "java/lang/String") (ybytes := jdk_42_method_154_code) (ymax := 1) (yret := (some .boolean)) (yrm := ({ frames := 0, cells := 0, slots := 0, locals := 0 } : Room)) (by decide +kernel) (hw _ (List.mem_of_getElem? (i := 46) rfl)) (hw _ (List.mem_of_getElem? (i := 47) rfl)) (hw _ (List.mem_of_getElem? (i := 49) rfl)) (hw _ (List.mem_of_getElem? (i := 48) rfl)) (hw _ (List.mem_of_getElem? (i := 8) rfl)) (hw _ (List.mem_of_getElem? (i := 50) rfl)) (by decide) S.exa [] [] (k_il1 l wd a P.old S2) (le_ _ _ rfl) (W := 0) (le_ _ _ rfl) (by decide +kernel : parseMethodDescriptor "()Z" = some ⟨[], some .boolean⟩) rfl rfl rfl (le_ _ _ rfl) (le_ _ _ rfl) (le_ _ _ rfl) (pc' := 4) rfl (fun T1 h1 v1 P1 Q1 => ?_)
  replace P1 := P1.more (k' := 0) (n' := 0) (le_ _ _ rfl) (le_ _ _ rfl)
  obtain ⟨rfl, rfl⟩ := Q1
  refine b_ifY C P1 (cd := .eq) (o := 19) (by decide +kernel) (pc' := 23) (by decide) (by decide : (0 : Int32) = 0) ?_
  refine blk C P1 [.aload_n 0] (by decide +kernel) (pc' := 24) (L' := [.val (.ref a), .val (.int (65533 : Int32)), .val (.int (0 : Int32))]) (S' := [.ref a]) rfl ?_
  refine s_getf C P1 (idx := 9) (by decide +kernel) (hw _ (List.mem_of_getElem? (i := 29) rfl)) S3 (pc' := 27) rfl (fun T2 P2 => ?_)
  refine blk C P2 [.iload_n 1, .iload_n 2, .aload_n 0] (by decide +kernel) (pc' := 30) (L' := [.val (.ref a), .val (.int (65533 : Int32)), .val (.int (0 : Int32))]) (S' := [.ref a, .int (0 : Int32), .int (65533 : Int32), .ref t]) rfl ?_
  refine c_virtual C P2 (idx := 505) (y := (⟨"java/lang/String", "length", "()I"⟩ : MethodName)) (K0 := "java/lang/String") (ybytes := jdk_42_method_54_code) (ymax := 1) (yret := (some .int)) (yrm := ({ frames := 1, cells := 0, slots := 0, locals := 13 } : Room)) (by decide +kernel) (hw _ (List.mem_of_getElem? (i := 52) rfl)) (hw _ (List.mem_of_getElem? (i := 53) rfl)) (hw _ (List.mem_of_getElem? (i := 55) rfl)) (hw _ (List.mem_of_getElem? (i := 54) rfl)) (hw _ (List.mem_of_getElem? (i := 8) rfl)) (hw _ (List.mem_of_getElem? (i := 56) rfl)) (by decide) S.exa [] [.int (0 : Int32), .int (65533 : Int32), .ref t] (k_sw2 l wd a x0 x1 P2.old S) (le_ _ _ rfl) (W := 3) (le_ _ _ rfl) (by decide +kernel : parseMethodDescriptor "()I" = some ⟨[], some .int⟩) rfl rfl rfl (le_ _ _ rfl) (le_ _ _ rfl) (le_ _ _ rfl) (pc' := 33) rfl (fun T3 h3 v3 P3 Q3 => ?_)
  replace P3 := P3.more (k' := 0) (n' := 0) (le_ _ _ rfl) (le_ _ _ rfl)
  obtain ⟨rfl, rfl⟩ := Q3
  refine c_static C P3 (idx := 640) (y := (⟨"java/lang/StringUTF16", "indexOf", "([BIII)I"⟩ : MethodName)) (ybytes := jdk_52_method_40_code) (ymax := 4) (yret := (some .int)) (yrm := ({ frames := 4, cells := 0, slots := 0, locals := 58 } : Room)) (by decide +kernel) (hw _ (List.mem_of_getElem? (i := 98) rfl)) (hw _ (List.mem_of_getElem? (i := 99) rfl)) (hw _ (List.mem_of_getElem? (i := 71) rfl)) (hw _ (List.mem_of_getElem? (i := 100) rfl)) (by decide) [.ref t, .int (65533 : Int32), .int (0 : Int32), .int (2 : Int32)] [] (k_io2 l wd t x0 x1 P3.old S4 i0 i1) (le_ _ _ rfl) (W := 0) (le_ _ _ rfl) (by decide +kernel : parseMethodDescriptor "([BIII)I" = some ⟨[(.array .byte), .int, .int, .int], some .int⟩) rfl rfl rfl (le_ _ _ rfl) (le_ _ _ rfl) (le_ _ _ rfl) (pc' := 36) rfl (fun T4 h4 v4 P4 Q4 => ?_)
  replace P4 := P4.more (k' := 0) (n' := 0) (le_ _ _ rfl) (le_ _ _ rfl)
  obtain ⟨w4, rfl, rfl, Q4⟩ := Q4
  exact r_int C P4 (ty := .int) (by simp) rfl (by decide +kernel) (le_ _ _ rfl) (le_ _ _ rfl) ⟨_, rfl, ⟨_, rfl, rfl, Q4⟩⟩
theorem k_jw2_ef (m : MethodId) (a : Addr) (x0 x1 : Int32) : entryFrame m #[.ref a, .int (65533 : Int32)] 2 = fr m 0 [.val (.ref a), .val (.int (65533 : Int32))] [] := by first | (simp [entryFrame, mkF, argsToLocals, Value.category]; done) | rfl
set_option maxRecDepth 65536 in
set_option maxHeartbeats 4000000 in
theorem k_jw2 (l : Launch) {Z : State} {a0 : Array Value} {n0 : Nat} {h : Heap} {z : Int32} {fm : Value} (wd : Wd Z a0 z fm) (a : Addr) (x0 x1 : Int32)  (O : Old Z n0 h) (S : Str16 Z n0 h a [x0, x1]) (i0 : c16 x0 = x0) (i1 : c16 x1 = x1) :
    Con l Z consts_1 n0 [] (⟨"java/lang/String", "indexOf", "(I)I"⟩ : MethodName) jdk_42_method_79_code 2 (some .int) ({ frames := 6, cells := 0, slots := 0, locals := 87 } : Room) #[.ref a, .int (65533 : Int32)] h (Ret1 fun v h' => ∃ w, v = .int w ∧ h = h' ∧ ((¬ w < 0 ∧ Lost [x0, x1]) ∨ (w < 0 ∧ ¬ Lost [x0, x1]))) := by
  obtain ⟨hw, hEL, Sz, hz, SA, SH, SL, SF, hfm⟩ := id wd
  obtain ⟨S1, S2, t, S3, S4⟩ := id S
  refine Con.intro (plainFor_of_name (by first | (simp [plainName, overriddenIn]; done) | decide +kernel)) O hEL ?_
  intro p e s m below meth c T C hs P
  have C : Ctx Z a0 consts_1 p s m meth c "java/lang/String" "indexOf" jdk_42_method_79_code 2 (some .int) := C
  refine Run.cast (k_jw2_ef m a x0 x1) ?_
  refine blk C P [.aload_n 0, .iload_n 1, .iconst 0] (by decide +kernel) (pc' := 3) (L' := [.val (.ref a), .val (.int (65533 : Int32))]) (S' := [.int (0 : Int32), .int (65533 : Int32), .ref a]) rfl ?_
  refine c_virtual C P (idx := 633) (y := (⟨"java/lang/String", "indexOf", "(II)I"⟩ : MethodName)) (K0 := "java/lang/String") (ybytes := jdk_42_method_80_code) (ymax := 3) (yret := (some .int)) (yrm := ({ frames := 5, cells := 0, slots := 0, locals := 73 } : Room)) (by decide +kernel) (hw _ (List.mem_of_getElem? (i := 41) rfl)) (hw _ (List.mem_of_getElem? (i := 42) rfl)) (hw _ (List.mem_of_getElem? (i := 44) rfl)) (hw _ (List.mem_of_getElem? (i := 43) rfl)) (hw _ (List.mem_of_getElem? (i := 8) rfl)) (hw _ (List.mem_of_getElem? (i := 45) rfl)) (by decide) S.exa [.int (65533 : Int32), .int (0 : Int32)] [] (k_iw2 l wd a x0 x1 P.old S i0 i1) (le_ _ _ rfl) (W := 0) (le_ _ _ rfl) (by decide +kernel : parseMethodDescriptor "(II)I" = some ⟨[.int, .int], some .int⟩) rfl rfl rfl (le_ _ _ rfl) (le_ _ _ rfl) (le_ _ _ rfl) (pc' := 6) rfl (fun T1 h1 v1 P1 Q1 => ?_)
  replace P1 := P1.more (k' := 0) (n' := 0) (le_ _ _ rfl) (le_ _ _ rfl)
  obtain ⟨w1, rfl, rfl, Q1⟩ := Q1
  exact r_int C P1 (ty := .int) (by simp) rfl (by decide +kernel) (le_ _ _ rfl) (le_ _ _ rfl) ⟨_, rfl, ⟨_, rfl, rfl, Q1⟩⟩
theorem k_lw2_ef (m : MethodId) (a : Addr) (x0 x1 : Int32) : entryFrame m #[.ref a] 1 = fr m 0 [.val (.ref a)] [] := by first | (simp [entryFrame, mkF, argsToLocals, Value.category]; done) | rfl
set_option maxRecDepth 65536 in
set_option maxHeartbeats 4000000 in
theorem k_lw2 (l : Launch) {Z : State} {a0 : Array Value} {n0 : Nat} {h : Heap} {z : Int32} {fm : Value} (wd : Wd Z a0 z fm) (a : Addr) (x0 x1 : Int32)  (O : Old Z n0 h) (S : Str16 Z n0 h a [x0, x1]) (i0 : c16 x0 = x0) (i1 : c16 x1 = x1) :
    Con l Z consts_1 n0 [] (⟨"com/example/archive_packager/archivepackager/LocaleCharset", "lostBytes", "(Ljava/lang/String;)Z"⟩ : MethodName) prog_3_method_6_code 1 (some .boolean) ({ frames := 7, cells := 0, slots := 0, locals := 100 } : Room) #[.ref a] h (Ret1 fun v h' => h = h' ∧ ((v = .int 1 ∧ Lost [x0, x1]) ∨ (v = .int 0 ∧ ¬ Lost [x0, x1]))) := by
  obtain ⟨hw, hEL, Sz, hz, SA, SH, SL, SF, hfm⟩ := id wd
  obtain ⟨S1, S2, t, S3, S4⟩ := id S
  refine Con.intro (plainFor_of_name (by first | (simp [plainName, overriddenIn]; done) | decide +kernel)) O hEL ?_
  intro p e s m below meth c T C hs P
  have C : Ctx Z a0 consts_1 p s m meth c "com/example/archive_packager/archivepackager/LocaleCharset" "lostBytes" prog_3_method_6_code 1 (some .boolean) := C
  refine Run.cast (k_lw2_ef m a x0 x1) ?_
  refine blk C P [.aload_n 0] (by decide +kernel) (pc' := 1) (L' := [.val (.ref a)]) (S' := [.ref a]) rfl ?_
  refine s_ldcI C P (idx := 43) (by decide +kernel) (hw _ (List.mem_of_getElem? (i := 35) rfl)) (pc' := 3) rfl ?_
  refine c_virtual C P (idx := 44) (y := (⟨"java/lang/String", "indexOf", "(I)I"⟩ : MethodName)) (K0 := "java/lang/String") (ybytes := jdk_42_method_79_code) (ymax := 2) (yret := (some .int)) (yrm := ({ frames := 6, cells := 0, slots := 0, locals := 87 } : Room)) (by decide +kernel) (hw _ (List.mem_of_getElem? (i := 36) rfl)) (hw _ (List.mem_of_getElem? (i := 37) rfl)) (hw _ (List.mem_of_getElem? (i := 39) rfl)) (hw _ (List.mem_of_getElem? (i := 38) rfl)) (hw _ (List.mem_of_getElem? (i := 8) rfl)) (hw _ (List.mem_of_getElem? (i := 40) rfl)) (by decide) S.exa [.int (65533 : Int32)] [] (k_jw2 l wd a x0 x1 P.old S i0 i1) (le_ _ _ rfl) (W := 0) (le_ _ _ rfl) (by decide +kernel : parseMethodDescriptor "(I)I" = some ⟨[.int], some .int⟩) rfl rfl rfl (le_ _ _ rfl) (le_ _ _ rfl) (le_ _ _ rfl) (pc' := 6) rfl (fun T1 h1 v1 P1 Q1 => ?_)
  replace P1 := P1.more (k' := 0) (n' := 0) (le_ _ _ rfl) (le_ _ _ rfl)
  obtain ⟨w1, rfl, rfl, Q1⟩ := Q1
  rcases Q1 with ⟨q1, Q1⟩ | ⟨q1, Q1⟩
  · skip
    refine b_ifN C P1 (cd := .lt) (o := 7) (by decide +kernel) (pc' := 9) rfl q1 ?_
    refine blk C P1 [.iconst 1] (by decide +kernel) (pc' := 10) (L' := [.val (.ref a)]) (S' := [.int (1 : Int32)]) rfl ?_
    refine b_goto C P1 (o := 4) (by decide +kernel) (pc' := 14) (by decide) ?_
    exact r_int C P1 (ty := .boolean) (by simp) rfl (by decide +kernel) (le_ _ _ rfl) (le_ _ _ rfl) ⟨_, rfl, ⟨rfl, Or.inl ⟨rfl, Q1⟩⟩⟩
  · skip
    refine b_ifY C P1 (cd := .lt) (o := 7) (by decide +kernel) (pc' := 13) (by decide) q1 ?_
    refine blk C P1 [.iconst 0] (by decide +kernel) (pc' := 14) (L' := [.val (.ref a)]) (S' := [.int (0 : Int32)]) rfl ?_
    exact r_int C P1 (ty := .boolean) (by simp) rfl (by decide +kernel) (le_ _ _ rfl) (le_ _ _ rfl) ⟨_, rfl, ⟨rfl, Or.inr ⟨rfl, Q1⟩⟩⟩
theorem k_nl3_ef (m : MethodId)  : entryFrame m #[.int (3 : Int32)] 1 = fr m 0 [.val (.int (3 : Int32))] [] := by first | (simp [entryFrame, mkF, argsToLocals, Value.category]; done) | rfl
set_option maxRecDepth 65536 in
set_option maxHeartbeats 4000000 in
theorem k_nl3 (l : Launch) {Z : State} {a0 : Array Value} {n0 : Nat} {h : Heap} {z : Int32} {fm : Value} (wd : Wd Z a0 z fm)   (O : Old Z n0 h)  :
    Con l Z consts_1 n0 [] (⟨"java/lang/StringUTF16", "newBytesLength", "(I)I"⟩ : MethodName) jdk_52_method_3_code 1 (some .int) ({ frames := 0, cells := 0, slots := 0, locals := 0 } : Room) #[.int (3 : Int32)] h (Ret1 fun v h' => v = .int 6 ∧ h = h') := by
  obtain ⟨hw, hEL, Sz, hz, SA, SH, SL, SF, hfm⟩ := id wd
  refine Con.intro (plainFor_of_name (by first | (simp [plainName, overriddenIn]; done) | decide +kernel)) O hEL ?_
  intro p e s m below meth c T C hs P
  have C : Ctx Z a0 consts_1 p s m meth c "java/lang/StringUTF16" "newBytesLength" jdk_52_method_3_code 1 (some .int) := C
  refine Run.cast (k_nl3_ef m) ?_
  refine blk C P [.iload_n 0] (by decide +kernel) (pc' := 1) (L' := [.val (.int (3 : Int32))]) (S' := [.int (3 : Int32)]) rfl ?_
  refine b_ifY C P (cd := .ge) (o := 11) (by decide +kernel) (pc' := 12) (by decide) (by decide : ¬ (3 : Int32) < 0) ?_
  refine blk C P [.iload_n 0] (by decide +kernel) (pc' := 13) (L' := [.val (.int (3 : Int32))]) (S' := [.int (3 : Int32)]) rfl ?_
  refine s_ldcI C P (idx := 20) (by decide +kernel) (hw _ (List.mem_of_getElem? (i := 85) rfl)) (pc' := 15) rfl ?_
  refine b_cmY C P (cd := .lt) (o := 40) (by decide +kernel) (pc' := 55) (by decide) (by decide : (3 : Int32) < (1073741823 : Int32)) ?_
  refine blk C P [.iload_n 0, .iconst 1, .ishl] (by decide +kernel) (pc' := 58) (L' := [.val (.int (3 : Int32))]) (S' := [.int (6 : Int32)]) rfl ?_
  exact r_int C P (ty := .int) (by simp) rfl (by decide +kernel) (le_ _ _ rfl) (le_ _ _ rfl) ⟨_, rfl, ⟨rfl, rfl⟩⟩
theorem k_nf3_ef (m : MethodId)  : entryFrame m #[.int (3 : Int32)] 1 = fr m 0 [.val (.int (3 : Int32))] [] := by first | (simp [entryFrame, mkF, argsToLocals, Value.category]; done) | rfl
set_option maxRecDepth 65536 in
set_option maxHeartbeats 4000000 in
theorem k_nf3 (l : Launch) {Z : State} {a0 : Array Value} {n0 : Nat} {h : Heap} {z : Int32} {fm : Value} (wd : Wd Z a0 z fm)   (O : Old Z n0 h)  :
    Con l Z consts_1 n0 [] (⟨"java/lang/StringUTF16", "newBytesFor", "(I)[B"⟩ : MethodName) jdk_52_method_2_code 1 (some (.array .byte)) ({ frames := 1, cells := 1, slots := 6, locals := 12 } : Room) #[.int (3 : Int32)] h (Ret1 fun v h' => v = .ref h.size ∧ Ext h h' ∧ Bys Z n0 h' h.size [0, 0, 0, 0, 0, 0]) := by
  obtain ⟨hw, hEL, Sz, hz, SA, SH, SL, SF, hfm⟩ := id wd
  refine Con.intro (plainFor_of_name (by first | (simp [plainName, overriddenIn]; done) | decide +kernel)) O hEL ?_
  intro p e s m below meth c T C hs P
  have C : Ctx Z a0 consts_1 p s m meth c "java/lang/StringUTF16" "newBytesFor" jdk_52_method_2_code 1 (some (.array .byte)) := C
  refine Run.cast (k_nf3_ef m) ?_
  refine blk C P [.iload_n 0] (by decide +kernel) (pc' := 1) (L' := [.val (.int (3 : Int32))]) (S' := [.int (3 : Int32)]) rfl ?_
  refine c_static C P (idx := 11) (y := (⟨"java/lang/StringUTF16", "newBytesLength", "(I)I"⟩ : MethodName)) (ybytes := jdk_52_method_3_code) (ymax := 1) (yret := (some .int)) (yrm := ({ frames := 0, cells := 0, slots := 0, locals := 0 } : Room)) (by decide +kernel) (hw _ (List.mem_of_getElem? (i := 82) rfl)) (hw _ (List.mem_of_getElem? (i := 83) rfl)) (hw _ (List.mem_of_getElem? (i := 71) rfl)) (hw _ (List.mem_of_getElem? (i := 84) rfl)) (by decide) [.int (3 : Int32)] [] (k_nl3 l wd  P.old ) (le_ _ _ rfl) (W := 0) (le_ _ _ rfl) (by decide +kernel : parseMethodDescriptor "(I)I" = some ⟨[.int], some .int⟩) rfl rfl rfl (le_ _ _ rfl) (le_ _ _ rfl) (le_ _ _ rfl) (pc' := 4) rfl (fun T1 h1 v1 P1 Q1 => ?_)
  replace P1 := P1.more (k' := 0) (n' := 0) (le_ _ _ rfl) (le_ _ _ rfl)
  obtain ⟨rfl, rfl⟩ := Q1
  refine s_newB C P1 6 (by decide +kernel) (hw _ (List.mem_of_getElem? (i := 24) rfl)) rfl (by decide) (le_ _ _ rfl) (le_ _ _ rfl) (pc' := 6) rfl (fun T2 h2 P2 E2 V2 => ?_)
  replace P2 := P2.more (k' := 1) (n' := 6) (le_ _ _ rfl) (le_ _ _ rfl)
  exact r_ref C P2 (w := .ref h.size) rfl rfl (by decide +kernel) (le_ _ _ rfl) (le_ _ _ rfl) ⟨_, rfl, ⟨rfl, E2, V2⟩⟩
theorem k_tb3_ef (m : MethodId) (b : Addr) (x0 x1 x2 : Int32) : entryFrame m #[.ref b, .int (0 : Int32), .int (3 : Int32)] 5 = fr m 0 [.val (.ref b), .val (.int (0 : Int32)), .val (.int (3 : Int32)), .unset, .unset] [] := by first | (simp [entryFrame, mkF, argsToLocals, Value.category]; done) | rfl
set_option maxRecDepth 65536 in
set_option maxHeartbeats 4000000 in
theorem k_tb3 (l : Launch) {Z : State} {a0 : Array Value} {n0 : Nat} {h : Heap} {z : Int32} {fm : Value} (wd : Wd Z a0 z fm) (b : Addr) (x0 x1 x2 : Int32)  (O : Old Z n0 h) (V : Chs Z n0 h b [x0, x1, x2]) :
    Con l Z consts_1 n0 [] (⟨"java/lang/StringUTF16", "toBytes", "([CII)[B"⟩ : MethodName) jdk_52_method_14_code 5 (some (.array .byte)) ({ frames := 2, cells := 1, slots := 6, locals := 24 } : Room) #[.ref b, .int (0 : Int32), .int (3 : Int32)] h (Ret1 fun v h' => v = .ref h.size ∧ Ext h h' ∧ Bys Z n0 h' h.size (wide [x0, x1, x2])) := by
  obtain ⟨hw, hEL, Sz, hz, SA, SH, SL, SF, hfm⟩ := id wd
  refine Con.intro (plainFor_of_name (by first | (simp [plainName, overriddenIn]; done) | decide +kernel)) O hEL ?_
  intro p e s m below meth c T C hs P
  have C : Ctx Z a0 consts_1 p s m meth c "java/lang/StringUTF16" "toBytes" jdk_52_method_14_code 5 (some (.array .byte)) := C
  refine Run.cast (k_tb3_ef m b x0 x1 x2) ?_
  refine blk C P [.iload_n 2] (by decide +kernel) (pc' := 1) (L' := [.val (.ref b), .val (.int (0 : Int32)), .val (.int (3 : Int32)), .unset, .unset]) (S' := [.int (3 : Int32)]) rfl ?_
  refine c_static C P (idx := 107) (y := (⟨"java/lang/StringUTF16", "newBytesFor", "(I)[B"⟩ : MethodName)) (ybytes := jdk_52_method_2_code) (ymax := 1) (yret := (some (.array .byte))) (yrm := ({ frames := 1, cells := 1, slots := 6, locals := 12 } : Room)) (by decide +kernel) (hw _ (List.mem_of_getElem? (i := 79) rfl)) (hw _ (List.mem_of_getElem? (i := 80) rfl)) (hw _ (List.mem_of_getElem? (i := 71) rfl)) (hw _ (List.mem_of_getElem? (i := 81) rfl)) (by decide) [.int (3 : Int32)] [] (k_nf3 l wd  P.old ) (le_ _ _ rfl) (W := 0) (le_ _ _ rfl) (by decide +kernel : parseMethodDescriptor "(I)[B" = some ⟨[.int], some (.array .byte)⟩) rfl rfl rfl (le_ _ _ rfl) (le_ _ _ rfl) (le_ _ _ rfl) (pc' := 4) rfl (fun T1 h1 v1 P1 Q1 => ?_)
  replace P1 := P1.more (k' := 1) (n' := 6) (le_ _ _ rfl) (le_ _ _ rfl)
  obtain ⟨rfl, E1, V1⟩ := Q1
  refine blk C P1 [.astore_n 3, .iconst 0, .istore 4, .iload 4, .iload_n 2] (by decide +kernel) (pc' := 11) (L' := [.val (.ref b), .val (.int (0 : Int32)), .val (.int (3 : Int32)), .val (.ref h.size), .val (.int (0 : Int32))]) (S' := [.int (3 : Int32), .int (0 : Int32)]) rfl ?_
  refine b_cmN C P1 (cd := .ge) (o := 21) (by decide +kernel) (pc' := 14) rfl (by decide : (0 : Int32) < (3 : Int32)) ?_
  refine blk C P1 [.aload_n 3, .iload 4, .aload_n 0, .iload_n 1] (by decide +kernel) (pc' := 19) (L' := [.val (.ref b), .val (.int (0 : Int32)), .val (.int (3 : Int32)), .val (.ref h.size), .val (.int (0 : Int32))]) (S' := [.int (0 : Int32), .ref b, .int (0 : Int32), .ref h.size]) rfl ?_
  refine s_ldC C P1 0 (x := x0) (by decide +kernel) (V.ext E1) rfl rfl (pc' := 20) rfl ?_
  refine c_static0 C P1 (idx := 111) (y := (⟨"java/lang/StringUTF16", "putChar", "([BII)V"⟩ : MethodName)) (ybytes := jdk_52_method_4_code) (ymax := 3) (yrm := ({ frames := 0, cells := 0, slots := 0, locals := 0 } : Room)) (by decide +kernel) (hw _ (List.mem_of_getElem? (i := 86) rfl)) (hw _ (List.mem_of_getElem? (i := 87) rfl)) (hw _ (List.mem_of_getElem? (i := 71) rfl)) (hw _ (List.mem_of_getElem? (i := 88) rfl)) (by decide) [.ref h.size, .int (0 : Int32), .int x0] [] (k_pc0 l wd (h.size) x0 P1.old V1 (Nat.lt_of_lt_of_le (Nat.lt_succ_self _) (le_ _ _ rfl))) (le_ _ _ rfl) (W := 0) (le_ _ _ rfl) (by decide +kernel : parseMethodDescriptor "([BII)V" = some ⟨[(.array .byte), .int, .int], none⟩) rfl rfl rfl (le_ _ _ rfl) (le_ _ _ rfl) (le_ _ _ rfl) (pc' := 23) rfl (fun T2 h2 P2 Q2 => ?_)
  replace P2 := P2.more (k' := 1) (n' := 6) (le_ _ _ rfl) (le_ _ _ rfl)
  obtain ⟨K2, V2⟩ := Q2
  replace V2 : Bys Z n0 h2 (h.size) [(wlo x0), (whi x0), (0 : Int32), (0 : Int32), (0 : Int32), (0 : Int32)] := V2
  refine blk C P2 [.iinc 1 1, .iinc 4 1] (by decide +kernel) (pc' := 29) (L' := [.val (.ref b), .val (.int (1 : Int32)), .val (.int (3 : Int32)), .val (.ref h.size), .val (.int (1 : Int32))]) (S' := []) rfl ?_
  refine b_goto C P2 (o := -21) (by decide +kernel) (pc' := 8) (by decide) ?_
  refine blk C P2 [.iload 4, .iload_n 2] (by decide +kernel) (pc' := 11) (L' := [.val (.ref b), .val (.int (1 : Int32)), .val (.int (3 : Int32)), .val (.ref h.size), .val (.int (1 : Int32))]) (S' := [.int (3 : Int32), .int (1 : Int32)]) rfl ?_
  refine b_cmN C P2 (cd := .ge) (o := 21) (by decide +kernel) (pc' := 14) rfl (by decide : (1 : Int32) < (3 : Int32)) ?_
  refine blk C P2 [.aload_n 3, .iload 4, .aload_n 0, .iload_n 1] (by decide +kernel) (pc' := 19) (L' := [.val (.ref b), .val (.int (1 : Int32)), .val (.int (3 : Int32)), .val (.ref h.size), .val (.int (1 : Int32))]) (S' := [.int (1 : Int32), .ref b, .int (1 : Int32), .ref h.size]) rfl ?_
  refine s_ldC C P2 1 (x := x1) (by decide +kernel) (V.ext (exK E1 K2 (Nat.le_refl _))) rfl rfl (pc' := 20) rfl ?_
  refine c_static0 C P2 (idx := 111) (y := (⟨"java/lang/StringUTF16", "putChar", "([BII)V"⟩ : MethodName)) (ybytes := jdk_52_method_4_code) (ymax := 3) (yrm := ({ frames := 0, cells := 0, slots := 0, locals := 0 } : Room)) (by decide +kernel) (hw _ (List.mem_of_getElem? (i := 86) rfl)) (hw _ (List.mem_of_getElem? (i := 87) rfl)) (hw _ (List.mem_of_getElem? (i := 71) rfl)) (hw _ (List.mem_of_getElem? (i := 88) rfl)) (by decide) [.ref h.size, .int (1 : Int32), .int x1] [] (k_pc1 l wd (h.size) x1 P2.old V2 (Nat.lt_of_lt_of_le (Nat.lt_succ_self _) (le_ _ _ rfl))) (le_ _ _ rfl) (W := 0) (le_ _ _ rfl) (by decide +kernel : parseMethodDescriptor "([BII)V" = some ⟨[(.array .byte), .int, .int], none⟩) rfl rfl rfl (le_ _ _ rfl) (le_ _ _ rfl) (le_ _ _ rfl) (pc' := 23) rfl (fun T3 h3 P3 Q3 => ?_)
  replace P3 := P3.more (k' := 1) (n' := 6) (le_ _ _ rfl) (le_ _ _ rfl)
  obtain ⟨K3, V3⟩ := Q3
  replace V3 : Bys Z n0 h3 (h.size) [(wlo x0), (whi x0), (wlo x1), (whi x1), (0 : Int32), (0 : Int32)] := V3
  refine blk C P3 [.iinc 1 1, .iinc 4 1] (by decide +kernel) (pc' := 29) (L' := [.val (.ref b), .val (.int (2 : Int32)), .val (.int (3 : Int32)), .val (.ref h.size), .val (.int (2 : Int32))]) (S' := []) rfl ?_
  refine b_goto C P3 (o := -21) (by decide +kernel) (pc' := 8) (by decide) ?_
  refine blk C P3 [.iload 4, .iload_n 2] (by decide +kernel) (pc' := 11) (L' := [.val (.ref b), .val (.int (2 : Int32)), .val (.int (3 : Int32)), .val (.ref h.size), .val (.int (2 : Int32))]) (S' := [.int (3 : Int32), .int (2 : Int32)]) rfl ?_
  refine b_cmN C P3 (cd := .ge) (o := 21) (by decide +kernel) (pc' := 14) rfl (by decide : (2 : Int32) < (3 : Int32)) ?_
  refine blk C P3 [.aload_n 3, .iload 4, .aload_n 0, .iload_n 1] (by decide +kernel) (pc' := 19) (L' := [.val (.ref b), .val (.int (2 : Int32)), .val (.int (3 : Int32)), .val (.ref h.size), .val (.int (2 : Int32))]) (S' := [.int (2 : Int32), .ref b, .int (2 : Int32), .ref h.size]) rfl ?_
  refine s_ldC C P3 2 (x := x2) (by decide +kernel) (V.ext (exK (exK E1 K2 (Nat.le_refl _)) K3 (Nat.le_refl _))) rfl rfl (pc' := 20) rfl ?_
  refine c_static0 C P3 (idx := 111) (y := (⟨"java/lang/StringUTF16", "putChar", "([BII)V"⟩ : MethodName)) (ybytes := jdk_52_method_4_code) (ymax := 3) (yrm := ({ frames := 0, cells := 0, slots := 0, locals := 0 } : Room)) (by decide +kernel) (hw _ (List.mem_of_getElem? (i := 86) rfl)) (hw _ (List.mem_of_getElem? (i := 87) rfl)) (hw _ (List.mem_of_getElem? (i := 71) rfl)) (hw _ (List.mem_of_getElem? (i := 88) rfl)) (by decide) [.ref h.size, .int (2 : Int32), .int x2] [] (k_pc2 l wd (h.size) x2 P3.old V3 (Nat.lt_of_lt_of_le (Nat.lt_succ_self _) (le_ _ _ rfl))) (le_ _ _ rfl) (W := 0) (le_ _ _ rfl) (by decide +kernel : parseMethodDescriptor "([BII)V" = some ⟨[(.array .byte), .int, .int], none⟩) rfl rfl rfl (le_ _ _ rfl) (le_ _ _ rfl) (le_ _ _ rfl) (pc' := 23) rfl (fun T4 h4 P4 Q4 => ?_)
  replace P4 := P4.more (k' := 1) (n' := 6) (le_ _ _ rfl) (le_ _ _ rfl)
  obtain ⟨K4, V4⟩ := Q4
  replace V4 : Bys Z n0 h4 (h.size) [(wlo x0), (whi x0), (wlo x1), (whi x1), (wlo x2), (whi x2)] := V4
  refine blk C P4 [.iinc 1 1, .iinc 4 1] (by decide +kernel) (pc' := 29) (L' := [.val (.ref b), .val (.int (3 : Int32)), .val (.int (3 : Int32)), .val (.ref h.size), .val (.int (3 : Int32))]) (S' := []) rfl ?_
  refine b_goto C P4 (o := -21) (by decide +kernel) (pc' := 8) (by decide) ?_
  refine blk C P4 [.iload 4, .iload_n 2] (by decide +kernel) (pc' := 11) (L' := [.val (.ref b), .val (.int (3 : Int32)), .val (.int (3 : Int32)), .val (.ref h.size), .val (.int (3 : Int32))]) (S' := [.int (3 : Int32), .int (3 : Int32)]) rfl ?_
  refine b_cmY C P4 (cd := .ge) (o := 21) (by decide +kernel) (pc' := 32) (by decide) (by decide : ¬ (3 : Int32) < (3 : Int32)) ?_
  refine blk C P4 [.aload_n 3] (by decide +kernel) (pc' := 33) (L' := [.val (.ref b), .val (.int (3 : Int32)), .val (.int (3 : Int32)), .val (.ref h.size), .val (.int (3 : Int32))]) (S' := [.ref h.size]) rfl ?_
  exact r_ref C P4 (w := .ref h.size) rfl rfl (by decide +kernel) (le_ _ _ rfl) (le_ _ _ rfl) ⟨_, rfl, ⟨rfl, (exK (exK (exK E1 K2 (Nat.le_refl _)) K3 (Nat.le_refl _)) K4 (Nat.le_refl _)), V4⟩⟩
theorem k_c5_3_ef (m : MethodId) (b d : Addr) (x0 x1 x2 : Int32) : entryFrame m #[.ref b, .int (0 : Int32), .ref d, .int (0 : Int32), .int (3 : Int32)] 7 = fr m 0 [.val (.ref b), .val (.int (0 : Int32)), .val (.ref d), .val (.int (0 : Int32)), .val (.int (3 : Int32)), .unset, .unset] [] := by first | (simp [entryFrame, mkF, argsToLocals, Value.category]; done) | rfl
set_option maxRecDepth 65536 in
set_option maxHeartbeats 4000000 in
theorem k_c5_3 (l : Launch) {Z : State} {a0 : Array Value} {n0 : Nat} {h : Heap} {z : Int32} {fm : Value} (wd : Wd Z a0 z fm) (b d : Addr) (x0 x1 x2 : Int32)  (O : Old Z n0 h) (V : Chs Z n0 h b [x0, x1, x2]) (D : Bys Z n0 h d [0, 0, 0]) (any : (255 : Int32) < x0 ∨ (255 : Int32) < x1 ∨ (255 : Int32) < x2) :
    Con l Z consts_1 n0 [] (⟨"java/lang/StringUTF16", "compress", "([CI[BII)I"⟩ : MethodName) jdk_52_method_21_code 7 (some .int) ({ frames := 0, cells := 0, slots := 0, locals := 0 } : Room) #[.ref b, .int (0 : Int32), .ref d, .int (0 : Int32), .int (3 : Int32)] h (Ret1 fun v h' => Keep h h' [d] ∧ ((v = .int 0 ∧ (255 : Int32) < x0) ∨ (v = .int 1 ∧ (255 : Int32) < x1) ∨ (v = .int 2 ∧ (255 : Int32) < x2))) := by
  obtain ⟨hw, hEL, Sz, hz, SA, SH, SL, SF, hfm⟩ := id wd
  refine Con.intro (plainFor_of_name (by first | (simp [plainName, overriddenIn]; done) | decide +kernel)) O hEL ?_
  intro p e s m below meth c T C hs P
  have C : Ctx Z a0 consts_1 p s m meth c "java/lang/StringUTF16" "compress" jdk_52_method_21_code 7 (some .int) := C
  have hE : ∀ p ∈ consts_1, (Jvm.Cond.stringLink p.1 p.2 "").before a0 Z = true := fun p hp => by cases List.mem_singleton.mp hp; exact (hw _ (List.mem_of_getElem? (i := 23) rfl))
  refine Run.cast (k_c5_3_ef m b d x0 x1 x2) ?_
  refine blk C P [.iconst 0, .istore 5, .iload 5, .iload 4] (by decide +kernel) (pc' := 7) (L' := [.val (.ref b), .val (.int (0 : Int32)), .val (.ref d), .val (.int (0 : Int32)), .val (.int (3 : Int32)), .val (.int (0 : Int32)), .unset]) (S' := [.int (3 : Int32), .int (0 : Int32)]) rfl ?_
  refine b_cmN C P (cd := .ge) (o := 37) (by decide +kernel) (pc' := 10) rfl (by decide : (0 : Int32) < (3 : Int32)) ?_
  refine blk C P [.aload_n 0, .iload_n 1] (by decide +kernel) (pc' := 12) (L' := [.val (.ref b), .val (.int (0 : Int32)), .val (.ref d), .val (.int (0 : Int32)), .val (.int (3 : Int32)), .val (.int (0 : Int32)), .unset]) (S' := [.int (0 : Int32), .ref b]) rfl ?_
  refine s_ldC C P 0 (x := x0) (by decide +kernel) V rfl rfl (pc' := 13) rfl ?_
  refine blk C P [.istore 6, .iload 6, .sipush 255] (by decide +kernel) (pc' := 20) (L' := [.val (.ref b), .val (.int (0 : Int32)), .val (.ref d), .val (.int (0 : Int32)), .val (.int (3 : Int32)), .val (.int (0 : Int32)), .val (.int x0)]) (S' := [.int (255 : Int32), .int x0]) rfl ?_
  refine b_cm C P (cd := .le) (o := 6) (by decide +kernel) (pc' := 26) (by decide) (pn := 23) rfl (fun (q1 : ¬ (255 : Int32) < x0) => ?_) (fun (q1 : (255 : Int32) < x0) => ?_)
  · skip
    refine blk C P [.aload_n 2, .iload_n 3, .iload 6, .i2b] (by decide +kernel) (pc' := 31) (L' := [.val (.ref b), .val (.int (0 : Int32)), .val (.ref d), .val (.int (0 : Int32)), .val (.int (3 : Int32)), .val (.int (0 : Int32)), .val (.int x0)]) (S' := [.int (x0.toInt8.toInt32), .int (0 : Int32), .ref d]) rfl ?_
    refine s_stB C P hE 0 (by decide +kernel) D rfl (Nat.lt_of_lt_of_le (Nat.lt_succ_self _) (le_ _ _ rfl)) (b8_idem _) (pc' := 32) rfl (fun T2 h2 P2 K2 V2 => ?_)
    have V3 := Chs.keep V K2 (Chs.neB V D)
    replace V2 : Bys Z n0 h2 (d) [(x0.toInt8.toInt32), (0 : Int32), (0 : Int32)] := V2
    refine blk C P2 [.iinc 1 1, .iinc 3 1, .iinc 5 1] (by decide +kernel) (pc' := 41) (L' := [.val (.ref b), .val (.int (1 : Int32)), .val (.ref d), .val (.int (1 : Int32)), .val (.int (3 : Int32)), .val (.int (1 : Int32)), .val (.int x0)]) (S' := []) rfl ?_
    refine b_goto C P2 (o := -38) (by decide +kernel) (pc' := 3) (by decide) ?_
    refine blk C P2 [.iload 5, .iload 4] (by decide +kernel) (pc' := 7) (L' := [.val (.ref b), .val (.int (1 : Int32)), .val (.ref d), .val (.int (1 : Int32)), .val (.int (3 : Int32)), .val (.int (1 : Int32)), .val (.int x0)]) (S' := [.int (3 : Int32), .int (1 : Int32)]) rfl ?_
    refine b_cmN C P2 (cd := .ge) (o := 37) (by decide +kernel) (pc' := 10) rfl (by decide : (1 : Int32) < (3 : Int32)) ?_
    refine blk C P2 [.aload_n 0, .iload_n 1] (by decide +kernel) (pc' := 12) (L' := [.val (.ref b), .val (.int (1 : Int32)), .val (.ref d), .val (.int (1 : Int32)), .val (.int (3 : Int32)), .val (.int (1 : Int32)), .val (.int x0)]) (S' := [.int (1 : Int32), .ref b]) rfl ?_
    refine s_ldC C P2 1 (x := x1) (by decide +kernel) V3 rfl rfl (pc' := 13) rfl ?_
    refine blk C P2 [.istore 6, .iload 6, .sipush 255] (by decide +kernel) (pc' := 20) (L' := [.val (.ref b), .val (.int (1 : Int32)), .val (.ref d), .val (.int (1 : Int32)), .val (.int (3 : Int32)), .val (.int (1 : Int32)), .val (.int x1)]) (S' := [.int (255 : Int32), .int x1]) rfl ?_
    refine b_cm C P2 (cd := .le) (o := 6) (by decide +kernel) (pc' := 26) (by decide) (pn := 23) rfl (fun (q4 : ¬ (255 : Int32) < x1) => ?_) (fun (q4 : (255 : Int32) < x1) => ?_)
    · skip
      refine blk C P2 [.aload_n 2, .iload_n 3, .iload 6, .i2b] (by decide +kernel) (pc' := 31) (L' := [.val (.ref b), .val (.int (1 : Int32)), .val (.ref d), .val (.int (1 : Int32)), .val (.int (3 : Int32)), .val (.int (1 : Int32)), .val (.int x1)]) (S' := [.int (x1.toInt8.toInt32), .int (1 : Int32), .ref d]) rfl ?_
      refine s_stB C P2 hE 1 (by decide +kernel) V2 rfl (Nat.lt_of_lt_of_le (Nat.lt_succ_self _) (le_ _ _ rfl)) (b8_idem _) (pc' := 32) rfl (fun T5 h5 P5 K5 V5 => ?_)
      have V6 := Chs.keep V3 K5 (Chs.neB V3 V2)
      replace V5 : Bys Z n0 h5 (d) [(x0.toInt8.toInt32), (x1.toInt8.toInt32), (0 : Int32)] := V5
      refine blk C P5 [.iinc 1 1, .iinc 3 1, .iinc 5 1] (by decide +kernel) (pc' := 41) (L' := [.val (.ref b), .val (.int (2 : Int32)), .val (.ref d), .val (.int (2 : Int32)), .val (.int (3 : Int32)), .val (.int (2 : Int32)), .val (.int x1)]) (S' := []) rfl ?_
      refine b_goto C P5 (o := -38) (by decide +kernel) (pc' := 3) (by decide) ?_
      refine blk C P5 [.iload 5, .iload 4] (by decide +kernel) (pc' := 7) (L' := [.val (.ref b), .val (.int (2 : Int32)), .val (.ref d), .val (.int (2 : Int32)), .val (.int (3 : Int32)), .val (.int (2 : Int32)), .val (.int x1)]) (S' := [.int (3 : Int32), .int (2 : Int32)]) rfl ?_
      refine b_cmN C P5 (cd := .ge) (o := 37) (by decide +kernel) (pc' := 10) rfl (by decide : (2 : Int32) < (3 : Int32)) ?_
      refine blk C P5 [.aload_n 0, .iload_n 1] (by decide +kernel) (pc' := 12) (L' := [.val (.ref b), .val (.int (2 : Int32)), .val (.ref d), .val (.int (2 : Int32)), .val (.int (3 : Int32)), .val (.int (2 : Int32)), .val (.int x1)]) (S' := [.int (2 : Int32), .ref b]) rfl ?_
      refine s_ldC C P5 2 (x := x2) (by decide +kernel) V6 rfl rfl (pc' := 13) rfl ?_
      refine blk C P5 [.istore 6, .iload 6, .sipush 255] (by decide +kernel) (pc' := 20) (L' := [.val (.ref b), .val (.int (2 : Int32)), .val (.ref d), .val (.int (2 : Int32)), .val (.int (3 : Int32)), .val (.int (2 : Int32)), .val (.int x2)]) (S' := [.int (255 : Int32), .int x2]) rfl ?_
      refine b_cm C P5 (cd := .le) (o := 6) (by decide +kernel) (pc' := 26) (by decide) (pn := 23) rfl (fun (q7 : ¬ (255 : Int32) < x2) => ?_) (fun (q7 : (255 : Int32) < x2) => ?_)
      · skip
        refine blk C P5 [.aload_n 2, .iload_n 3, .iload 6, .i2b] (by decide +kernel) (pc' := 31) (L' := [.val (.ref b), .val (.int (2 : Int32)), .val (.ref d), .val (.int (2 : Int32)), .val (.int (3 : Int32)), .val (.int (2 : Int32)), .val (.int x2)]) (S' := [.int (x2.toInt8.toInt32), .int (2 : Int32), .ref d]) rfl ?_
        refine s_stB C P5 hE 2 (by decide +kernel) V5 rfl (Nat.lt_of_lt_of_le (Nat.lt_succ_self _) (le_ _ _ rfl)) (b8_idem _) (pc' := 32) rfl (fun T8 h8 P8 K8 V8 => ?_)
        have V9 := Chs.keep V6 K8 (Chs.neB V6 V5)
        replace V8 : Bys Z n0 h8 (d) [(x0.toInt8.toInt32), (x1.toInt8.toInt32), (x2.toInt8.toInt32)] := V8
        refine blk C P8 [.iinc 1 1, .iinc 3 1, .iinc 5 1] (by decide +kernel) (pc' := 41) (L' := [.val (.ref b), .val (.int (3 : Int32)), .val (.ref d), .val (.int (3 : Int32)), .val (.int (3 : Int32)), .val (.int (3 : Int32)), .val (.int x2)]) (S' := []) rfl ?_
        refine b_goto C P8 (o := -38) (by decide +kernel) (pc' := 3) (by decide) ?_
        refine blk C P8 [.iload 5, .iload 4] (by decide +kernel) (pc' := 7) (L' := [.val (.ref b), .val (.int (3 : Int32)), .val (.ref d), .val (.int (3 : Int32)), .val (.int (3 : Int32)), .val (.int (3 : Int32)), .val (.int x2)]) (S' := [.int (3 : Int32), .int (3 : Int32)]) rfl ?_
        refine b_cmY C P8 (cd := .ge) (o := 37) (by decide +kernel) (pc' := 44) (by decide) (by decide : ¬ (3 : Int32) < (3 : Int32)) ?_
        exact absurd any (fun z => z.elim q1 (fun z => z.elim q4 q7))
      · skip
        refine blk C P5 [.iload 5] (by decide +kernel) (pc' := 25) (L' := [.val (.ref b), .val (.int (2 : Int32)), .val (.ref d), .val (.int (2 : Int32)), .val (.int (3 : Int32)), .val (.int (2 : Int32)), .val (.int x2)]) (S' := [.int (2 : Int32)]) rfl ?_
        exact r_int C P5 (ty := .int) (by simp) rfl (by decide +kernel) (le_ _ _ rfl) (le_ _ _ rfl) ⟨_, rfl, ⟨(keepT K2 K5), Or.inr (Or.inr (⟨rfl, q7⟩))⟩⟩
    · skip
      refine blk C P2 [.iload 5] (by decide +kernel) (pc' := 25) (L' := [.val (.ref b), .val (.int (1 : Int32)), .val (.ref d), .val (.int (1 : Int32)), .val (.int (3 : Int32)), .val (.int (1 : Int32)), .val (.int x1)]) (S' := [.int (1 : Int32)]) rfl ?_
      exact r_int C P2 (ty := .int) (by simp) rfl (by decide +kernel) (le_ _ _ rfl) (le_ _ _ rfl) ⟨_, rfl, ⟨K2, Or.inr (Or.inl ⟨rfl, q4⟩)⟩⟩
  · skip
    refine blk C P [.iload 5] (by decide +kernel) (pc' := 25) (L' := [.val (.ref b), .val (.int (0 : Int32)), .val (.ref d), .val (.int (0 : Int32)), .val (.int (3 : Int32)), .val (.int (0 : Int32)), .val (.int x0)]) (S' := [.int (0 : Int32)]) rfl ?_
    exact r_int C P (ty := .int) (by simp) rfl (by decide +kernel) (le_ _ _ rfl) (le_ _ _ rfl) ⟨_, rfl, ⟨(Keep.refl h [d]), Or.inl ⟨rfl, q1⟩⟩⟩
theorem k_c3_3_ef (m : MethodId) (b : Addr) (x0 x1 x2 : Int32) : entryFrame m #[.ref b, .int (0 : Int32), .int (3 : Int32)] 6 = fr m 0 [.val (.ref b), .val (.int (0 : Int32)), .val (.int (3 : Int32)), .unset, .unset, .unset] [] := by first | (simp [entryFrame, mkF, argsToLocals, Value.category]; done) | rfl
set_option maxRecDepth 65536 in
set_option maxHeartbeats 4000000 in
theorem k_c3_3 (l : Launch) {Z : State} {a0 : Array Value} {n0 : Nat} {h : Heap} {z : Int32} {fm : Value} (wd : Wd Z a0 z fm) (b : Addr) (x0 x1 x2 : Int32)  (O : Old Z n0 h) (V : Chs Z n0 h b [x0, x1, x2]) (any : (255 : Int32) < x0 ∨ (255 : Int32) < x1 ∨ (255 : Int32) < x2) (i0 : c16 x0 = x0) (i1 : c16 x1 = x1) (i2 : c16 x2 = x2) :
    Con l Z consts_1 n0 [] (⟨"java/lang/StringUTF16", "compress", "([CII)[B"⟩ : MethodName) jdk_52_method_16_code 6 (some (.array .byte)) ({ frames := 3, cells := 2, slots := 9, locals := 40 } : Room) #[.ref b, .int (0 : Int32), .int (3 : Int32)] h (Ret1 fun v h' => ∃ t, v = .ref t ∧ Ext h h' ∧ Bys Z n0 h' t (wide [x0, x1, x2])) := by
  obtain ⟨hw, hEL, Sz, hz, SA, SH, SL, SF, hfm⟩ := id wd
  refine Con.intro (plainFor_of_name (by first | (simp [plainName, overriddenIn]; done) | decide +kernel)) O hEL ?_
  intro p e s m below meth c T C hs P
  have C : Ctx Z a0 consts_1 p s m meth c "java/lang/StringUTF16" "compress" jdk_52_method_16_code 6 (some (.array .byte)) := C
  refine Run.cast (k_c3_3_ef m b x0 x1 x2) ?_
  refine blk C P [.iload_n 2] (by decide +kernel) (pc' := 1) (L' := [.val (.ref b), .val (.int (0 : Int32)), .val (.int (3 : Int32)), .unset, .unset, .unset]) (S' := [.int (3 : Int32)]) rfl ?_
  refine s_newB C P 3 (by decide +kernel) (hw _ (List.mem_of_getElem? (i := 24) rfl)) rfl (by decide) (le_ _ _ rfl) (le_ _ _ rfl) (pc' := 3) rfl (fun T1 h1 P1 E1 V1 => ?_)
  replace P1 := P1.more (k' := 1) (n' := 3) (le_ _ _ rfl) (le_ _ _ rfl)
  refine blk C P1 [.astore_n 3, .aload_n 0, .iload_n 1, .aload_n 3, .iconst 0, .iload_n 2] (by decide +kernel) (pc' := 9) (L' := [.val (.ref b), .val (.int (0 : Int32)), .val (.int (3 : Int32)), .val (.ref h.size), .unset, .unset]) (S' := [.int (3 : Int32), .int (0 : Int32), .ref h.size, .int (0 : Int32), .ref b]) rfl ?_
  refine c_static C P1 (idx := 115) (y := (⟨"java/lang/StringUTF16", "compress", "([CI[BII)I"⟩ : MethodName)) (ybytes := jdk_52_method_21_code) (ymax := 7) (yret := (some .int)) (yrm := ({ frames := 0, cells := 0, slots := 0, locals := 0 } : Room)) (by decide +kernel) (hw _ (List.mem_of_getElem? (i := 73) rfl)) (hw _ (List.mem_of_getElem? (i := 74) rfl)) (hw _ (List.mem_of_getElem? (i := 71) rfl)) (hw _ (List.mem_of_getElem? (i := 75) rfl)) (by decide) [.ref b, .int (0 : Int32), .ref h.size, .int (0 : Int32), .int (3 : Int32)] [] (k_c5_3 l wd b (h.size) x0 x1 x2 P1.old (V.ext E1) V1 any) (le_ _ _ rfl) (W := 0) (le_ _ _ rfl) (by decide +kernel : parseMethodDescriptor "([CI[BII)I" = some ⟨[(.array .char), .int, (.array .byte), .int, .int], some .int⟩) rfl rfl rfl (le_ _ _ rfl) (le_ _ _ rfl) (le_ _ _ rfl) (pc' := 12) rfl (fun T2 h2 v2 P2 Q2 => ?_)
  replace P2 := P2.more (k' := 1) (n' := 3) (le_ _ _ rfl) (le_ _ _ rfl)
  obtain ⟨K2, Q2⟩ := Q2
  rcases Q2 with ⟨rfl, Q2⟩ | ⟨rfl, Q2⟩ | ⟨rfl, Q2⟩
  · skip
    refine blk C P2 [.istore 4, .iload 4, .iload_n 2] (by decide +kernel) (pc' := 17) (L' := [.val (.ref b), .val (.int (0 : Int32)), .val (.int (3 : Int32)), .val (.ref h.size), .val (.int (0 : Int32)), .unset]) (S' := [.int (3 : Int32), .int (0 : Int32)]) rfl ?_
    refine b_cmN C P2 (cd := .eq) (o := 40) (by decide +kernel) (pc' := 20) rfl (by decide : ¬ (0 : Int32) = (3 : Int32)) ?_
    refine blk C P2 [.aload_n 0, .iload_n 1, .iload_n 2] (by decide +kernel) (pc' := 23) (L' := [.val (.ref b), .val (.int (0 : Int32)), .val (.int (3 : Int32)), .val (.ref h.size), .val (.int (0 : Int32)), .unset]) (S' := [.int (3 : Int32), .int (0 : Int32), .ref b]) rfl ?_
    refine c_static C P2 (idx := 119) (y := (⟨"java/lang/StringUTF16", "toBytes", "([CII)[B"⟩ : MethodName)) (ybytes := jdk_52_method_14_code) (ymax := 5) (yret := (some (.array .byte))) (yrm := ({ frames := 2, cells := 1, slots := 6, locals := 24 } : Room)) (by decide +kernel) (hw _ (List.mem_of_getElem? (i := 76) rfl)) (hw _ (List.mem_of_getElem? (i := 77) rfl)) (hw _ (List.mem_of_getElem? (i := 71) rfl)) (hw _ (List.mem_of_getElem? (i := 78) rfl)) (by decide) [.ref b, .int (0 : Int32), .int (3 : Int32)] [] (k_tb3 l wd b x0 x1 x2 P2.old (V.ext (exK E1 K2 (Nat.le_refl _)))) (le_ _ _ rfl) (W := 0) (le_ _ _ rfl) (by decide +kernel : parseMethodDescriptor "([CII)[B" = some ⟨[(.array .char), .int, .int], some (.array .byte)⟩) rfl rfl rfl (le_ _ _ rfl) (le_ _ _ rfl) (le_ _ _ rfl) (pc' := 26) rfl (fun T3 h3 v3 P3 Q3 => ?_)
    replace P3 := P3.more (k' := 2) (n' := 9) (le_ _ _ rfl) (le_ _ _ rfl)
    obtain ⟨rfl, E3, V3⟩ := Q3
    refine blk C P3 [.astore 5, .aload 5, .iload 4] (by decide +kernel) (pc' := 32) (L' := [.val (.ref b), .val (.int (0 : Int32)), .val (.int (3 : Int32)), .val (.ref h.size), .val (.int (0 : Int32)), .val (.ref h2.size)]) (S' := [.int (0 : Int32), .ref h2.size]) rfl ?_
    refine c_static C P3 (idx := 71) (y := (⟨"java/lang/StringUTF16", "getChar", "([BI)C"⟩ : MethodName)) (ybytes := jdk_52_method_5_code) (ymax := 2) (yret := (some .char)) (yrm := ({ frames := 0, cells := 0, slots := 0, locals := 0 } : Room)) (by decide +kernel) (hw _ (List.mem_of_getElem? (i := 92) rfl)) (hw _ (List.mem_of_getElem? (i := 93) rfl)) (hw _ (List.mem_of_getElem? (i := 71) rfl)) (hw _ (List.mem_of_getElem? (i := 94) rfl)) (by decide) [.ref h2.size, .int (0 : Int32)] [] (k_gc0 l wd (h2.size) x0 P3.old V3 rfl rfl i0) (le_ _ _ rfl) (W := 0) (le_ _ _ rfl) (by decide +kernel : parseMethodDescriptor "([BI)C" = some ⟨[(.array .byte), .int], some .char⟩) rfl rfl rfl (le_ _ _ rfl) (le_ _ _ rfl) (le_ _ _ rfl) (pc' := 35) rfl (fun T4 h4 v4 P4 Q4 => ?_)
    replace P4 := P4.more (k' := 2) (n' := 9) (le_ _ _ rfl) (le_ _ _ rfl)
    obtain ⟨rfl, rfl⟩ := Q4
    refine blk C P4 [.sipush 255] (by decide +kernel) (pc' := 38) (L' := [.val (.ref b), .val (.int (0 : Int32)), .val (.int (3 : Int32)), .val (.ref h.size), .val (.int (0 : Int32)), .val (.ref h2.size)]) (S' := [.int (255 : Int32), .int x0]) rfl ?_
    refine b_cmY C P4 (cd := .gt) (o := 16) (by decide +kernel) (pc' := 54) (by decide) Q2 ?_
    refine blk C P4 [.aload 5] (by decide +kernel) (pc' := 56) (L' := [.val (.ref b), .val (.int (0 : Int32)), .val (.int (3 : Int32)), .val (.ref h.size), .val (.int (0 : Int32)), .val (.ref h2.size)]) (S' := [.ref h2.size]) rfl ?_
    exact r_ref C P4 (w := .ref h2.size) rfl rfl (by decide +kernel) (le_ _ _ rfl) (le_ _ _ rfl) ⟨_, rfl, ⟨_, rfl, (exT (exK E1 K2 (Nat.le_refl _)) E3), V3⟩⟩
  · skip
    refine blk C P2 [.istore 4, .iload 4, .iload_n 2] (by decide +kernel) (pc' := 17) (L' := [.val (.ref b), .val (.int (0 : Int32)), .val (.int (3 : Int32)), .val (.ref h.size), .val (.int (1 : Int32)), .unset]) (S' := [.int (3 : Int32), .int (1 : Int32)]) rfl ?_
    refine b_cmN C P2 (cd := .eq) (o := 40) (by decide +kernel) (pc' := 20) rfl (by decide : ¬ (1 : Int32) = (3 : Int32)) ?_
    refine blk C P2 [.aload_n 0, .iload_n 1, .iload_n 2] (by decide +kernel) (pc' := 23) (L' := [.val (.ref b), .val (.int (0 : Int32)), .val (.int (3 : Int32)), .val (.ref h.size), .val (.int (1 : Int32)), .unset]) (S' := [.int (3 : Int32), .int (0 : Int32), .ref b]) rfl ?_
    refine c_static C P2 (idx := 119) (y := (⟨"java/lang/StringUTF16", "toBytes", "([CII)[B"⟩ : MethodName)) (ybytes := jdk_52_method_14_code) (ymax := 5) (yret := (some (.array .byte))) (yrm := ({ frames := 2, cells := 1, slots := 6, locals := 24 } : Room)) (by decide +kernel) (hw _ (List.mem_of_getElem? (i := 76) rfl)) (hw _ (List.mem_of_getElem? (i := 77) rfl)) (hw _ (List.mem_of_getElem? (i := 71) rfl)) (hw _ (List.mem_of_getElem? (i := 78) rfl)) (by decide) [.ref b, .int (0 : Int32), .int (3 : Int32)] [] (k_tb3 l wd b x0 x1 x2 P2.old (V.ext (exK E1 K2 (Nat.le_refl _)))) (le_ _ _ rfl) (W := 0) (le_ _ _ rfl) (by decide +kernel : parseMethodDescriptor "([CII)[B" = some ⟨[(.array .char), .int, .int], some (.array .byte)⟩) rfl rfl rfl (le_ _ _ rfl) (le_ _ _ rfl) (le_ _ _ rfl) (pc' := 26) rfl (fun T5 h5 v5 P5 Q5 => ?_)
    replace P5 := P5.more (k' := 2) (n' := 9) (le_ _ _ rfl) (le_ _ _ rfl)
    obtain ⟨rfl, E5, V5⟩ := Q5
    refine blk C P5 [.astore 5, .aload 5, .iload 4] (by decide +kernel) (pc' := 32) (L' := [.val (.ref b), .val (.int (0 : Int32)), .val (.int (3 : Int32)), .val (.ref h.size), .val (.int (1 : Int32)), .val (.ref h2.size)]) (S' := [.int (1 : Int32), .ref h2.size]) rfl ?_
    refine c_static C P5 (idx := 71) (y := (⟨"java/lang/StringUTF16", "getChar", "([BI)C"⟩ : MethodName)) (ybytes := jdk_52_method_5_code) (ymax := 2) (yret := (some .char)) (yrm := ({ frames := 0, cells := 0, slots := 0, locals := 0 } : Room)) (by decide +kernel) (hw _ (List.mem_of_getElem? (i := 92) rfl)) (hw _ (List.mem_of_getElem? (i := 93) rfl)) (hw _ (List.mem_of_getElem? (i := 71) rfl)) (hw _ (List.mem_of_getElem? (i := 94) rfl)) (by decide) [.ref h2.size, .int (1 : Int32)] [] (k_gc1 l wd (h2.size) x1 P5.old V5 rfl rfl i1) (le_ _ _ rfl) (W := 0) (le_ _ _ rfl) (by decide +kernel : parseMethodDescriptor "([BI)C" = some ⟨[(.array .byte), .int], some .char⟩) rfl rfl rfl (le_ _ _ rfl) (le_ _ _ rfl) (le_ _ _ rfl) (pc' := 35) rfl (fun T6 h6 v6 P6 Q6 => ?_)
    replace P6 := P6.more (k' := 2) (n' := 9) (le_ _ _ rfl) (le_ _ _ rfl)
    obtain ⟨rfl, rfl⟩ := Q6
    refine blk C P6 [.sipush 255] (by decide +kernel) (pc' := 38) (L' := [.val (.ref b), .val (.int (0 : Int32)), .val (.int (3 : Int32)), .val (.ref h.size), .val (.int (1 : Int32)), .val (.ref h2.size)]) (S' := [.int (255 : Int32), .int x1]) rfl ?_
    refine b_cmY C P6 (cd := .gt) (o := 16) (by decide +kernel) (pc' := 54) (by decide) Q2 ?_
    refine blk C P6 [.aload 5] (by decide +kernel) (pc' := 56) (L' := [.val (.ref b), .val (.int (0 : Int32)), .val (.int (3 : Int32)), .val (.ref h.size), .val (.int (1 : Int32)), .val (.ref h2.size)]) (S' := [.ref h2.size]) rfl ?_
    exact r_ref C P6 (w := .ref h2.size) rfl rfl (by decide +kernel) (le_ _ _ rfl) (le_ _ _ rfl) ⟨_, rfl, ⟨_, rfl, (exT (exK E1 K2 (Nat.le_refl _)) E5), V5⟩⟩
  · skip
    refine blk C P2 [.istore 4, .iload 4, .iload_n 2] (by decide +kernel) (pc' := 17) (L' := [.val (.ref b), .val (.int (0 : Int32)), .val (.int (3 : Int32)), .val (.ref h.size), .val (.int (2 : Int32)), .unset]) (S' := [.int (3 : Int32), .int (2 : Int32)]) rfl ?_
    refine b_cmN C P2 (cd := .eq) (o := 40) (by decide +kernel) (pc' := 20) rfl (by decide : ¬ (2 : Int32) = (3 : Int32)) ?_
    refine blk C P2 [.aload_n 0, .iload_n 1, .iload_n 2] (by decide +kernel) (pc' := 23) (L' := [.val (.ref b), .val (.int (0 : Int32)), .val (.int (3 : Int32)), .val (.ref h.size), .val (.int (2 : Int32)), .unset]) (S' := [.int (3 : Int32), .int (0 : Int32), .ref b]) rfl ?_
    refine c_static C P2 (idx := 119) (y := (⟨"java/lang/StringUTF16", "toBytes", "([CII)[B"⟩ : MethodName)) (ybytes := jdk_52_method_14_code) (ymax := 5) (yret := (some (.array .byte))) (yrm := ({ frames := 2, cells := 1, slots := 6, locals := 24 } : Room)) (by decide +kernel) (hw _ (List.mem_of_getElem? (i := 76) rfl)) (hw _ (List.mem_of_getElem? (i := 77) rfl)) (hw _ (List.mem_of_getElem? (i := 71) rfl)) (hw _ (List.mem_of_getElem? (i := 78) rfl)) (by decide) [.ref b, .int (0 : Int32), .int (3 : Int32)] [] (k_tb3 l wd b x0 x1 x2 P2.old (V.ext (exK E1 K2 (Nat.le_refl _)))) (le_ _ _ rfl) (W := 0) (le_ _ _ rfl) (by decide +kernel : parseMethodDescriptor "([CII)[B" = some ⟨[(.array .char), .int, .int], some (.array .byte)⟩) rfl rfl rfl (le_ _ _ rfl) (le_ _ _ rfl) (le_ _ _ rfl) (pc' := 26) rfl (fun T7 h7 v7 P7 Q7 => ?_)
    replace P7 := P7.more (k' := 2) (n' := 9) (le_ _ _ rfl) (le_ _ _ rfl)
    obtain ⟨rfl, E7, V7⟩ := Q7
    refine blk C P7 [.astore 5, .aload 5, .iload 4] (by decide +kernel) (pc' := 32) (L' := [.val (.ref b), .val (.int (0 : Int32)), .val (.int (3 : Int32)), .val (.ref h.size), .val (.int (2 : Int32)), .val (.ref h2.size)]) (S' := [.int (2 : Int32), .ref h2.size]) rfl ?_
    refine c_static C P7 (idx := 71) (y := (⟨"java/lang/StringUTF16", "getChar", "([BI)C"⟩ : MethodName)) (ybytes := jdk_52_method_5_code) (ymax := 2) (yret := (some .char)) (yrm := ({ frames := 0, cells := 0, slots := 0, locals := 0 } : Room)) (by decide +kernel) (hw _ (List.mem_of_getElem? (i := 92) rfl)) (hw _ (List.mem_of_getElem? (i := 93) rfl)) (hw _ (List.mem_of_getElem? (i := 71) rfl)) (hw _ (List.mem_of_getElem? (i := 94) rfl)) (by decide) [.ref h2.size, .int (2 : Int32)] [] (k_gc2 l wd (h2.size) x2 P7.old V7 rfl rfl i2) (le_ _ _ rfl) (W := 0) (le_ _ _ rfl) (by decide +kernel : parseMethodDescriptor "([BI)C" = some ⟨[(.array .byte), .int], some .char⟩) rfl rfl rfl (le_ _ _ rfl) (le_ _ _ rfl) (le_ _ _ rfl) (pc' := 35) rfl (fun T8 h8 v8 P8 Q8 => ?_)
    replace P8 := P8.more (k' := 2) (n' := 9) (le_ _ _ rfl) (le_ _ _ rfl)
    obtain ⟨rfl, rfl⟩ := Q8
    refine blk C P8 [.sipush 255] (by decide +kernel) (pc' := 38) (L' := [.val (.ref b), .val (.int (0 : Int32)), .val (.int (3 : Int32)), .val (.ref h.size), .val (.int (2 : Int32)), .val (.ref h2.size)]) (S' := [.int (255 : Int32), .int x2]) rfl ?_
    refine b_cmY C P8 (cd := .gt) (o := 16) (by decide +kernel) (pc' := 54) (by decide) Q2 ?_
    refine blk C P8 [.aload 5] (by decide +kernel) (pc' := 56) (L' := [.val (.ref b), .val (.int (0 : Int32)), .val (.int (3 : Int32)), .val (.ref h.size), .val (.int (2 : Int32)), .val (.ref h2.size)]) (S' := [.ref h2.size]) rfl ?_
    exact r_ref C P8 (w := .ref h2.size) rfl rfl (by decide +kernel) (le_ _ _ rfl) (le_ _ _ rfl) ⟨_, rfl, ⟨_, rfl, (exT (exK E1 K2 (Nat.le_refl _)) E7), V7⟩⟩
theorem k_cl3_ef (m : MethodId) (t : Addr) (x0 x1 x2 : Int32) : entryFrame m #[.ref t, .int (3 : Int32)] 2 = fr m 0 [.val (.ref t), .val (.int (3 : Int32))] [] := by first | (simp [entryFrame, mkF, argsToLocals, Value.category]; done) | rfl
set_option maxRecDepth 65536 in
set_option maxHeartbeats 4000000 in
theorem k_cl3 (l : Launch) {Z : State} {a0 : Array Value} {n0 : Nat} {h : Heap} {z : Int32} {fm : Value} (wd : Wd Z a0 z fm) (t : Addr) (x0 x1 x2 : Int32)  (O : Old Z n0 h) (B : Bys Z n0 h t (wide [x0, x1, x2])) :
    Con l Z consts_1 n0 [] (⟨"java/lang/StringUTF16", "coderFromArrayLen", "([BI)B"⟩ : MethodName) jdk_52_method_15_code 2 (some .byte) ({ frames := 0, cells := 0, slots := 0, locals := 0 } : Room) #[.ref t, .int (3 : Int32)] h (Ret1 fun v h' => v = .int 1 ∧ h = h') := by
  obtain ⟨hw, hEL, Sz, hz, SA, SH, SL, SF, hfm⟩ := id wd
  refine Con.intro (plainFor_of_name (by first | (simp [plainName, overriddenIn]; done) | decide +kernel)) O hEL ?_
  intro p e s m below meth c T C hs P
  have C : Ctx Z a0 consts_1 p s m meth c "java/lang/StringUTF16" "coderFromArrayLen" jdk_52_method_15_code 2 (some .byte) := C
  refine Run.cast (k_cl3_ef m t x0 x1 x2) ?_
  refine blk C P [.iload_n 1, .aload_n 0] (by decide +kernel) (pc' := 2) (L' := [.val (.ref t), .val (.int (3 : Int32))]) (S' := [.ref t, .int (3 : Int32)]) rfl ?_
  refine s_alenB C P 6 (by decide +kernel) B rfl (pc' := 3) rfl ?_
  refine blk C P [.isub, .bipush 31, .iushr, .i2b] (by decide +kernel) (pc' := 8) (L' := [.val (.ref t), .val (.int (3 : Int32))]) (S' := [.int (1 : Int32)]) rfl ?_
  exact r_int C P (ty := .byte) (by simp) rfl (by decide +kernel) (le_ _ _ rfl) (le_ _ _ rfl) ⟨_, rfl, ⟨rfl, rfl⟩⟩
theorem k_i4_3_ef (m : MethodId) (a b : Addr) (x0 x1 x2 : Int32) : entryFrame m #[.ref a, .ref b, .int (0 : Int32), .int (3 : Int32), .null] 6 = fr m 0 [.val (.ref a), .val (.ref b), .val (.int (0 : Int32)), .val (.int (3 : Int32)), .val (.null), .unset] [] := by first | (simp [entryFrame, mkF, argsToLocals, Value.category]; done) | rfl
set_option maxRecDepth 65536 in
set_option maxHeartbeats 4000000 in
theorem k_i4_3 (l : Launch) {Z : State} {a0 : Array Value} {n0 : Nat} {h : Heap} {z : Int32} {fm : Value} (wd : Wd Z a0 z fm) (a b : Addr) (x0 x1 x2 : Int32)  (O : Old Z n0 h) (B : Blk Z a0 n0 h a sST) (V : Chs Z n0 h b [x0, x1, x2]) (any : (255 : Int32) < x0 ∨ (255 : Int32) < x1 ∨ (255 : Int32) < x2) (i0 : c16 x0 = x0) (i1 : c16 x1 = x1) (i2 : c16 x2 = x2) :
    Con l Z consts_1 n0 [] (⟨"java/lang/String", "<init>", "([CIILjava/lang/Void;)V"⟩ : MethodName) jdk_42_method_149_code 6 none ({ frames := 4, cells := 2, slots := 9, locals := 57 } : Room) #[.ref a, .ref b, .int (0 : Int32), .int (3 : Int32), .null] h (Ret0 fun h' => Keep h h' [a] ∧ Str16 Z n0 h' a [x0, x1, x2]) := by
  obtain ⟨hw, hEL, Sz, hz, SA, SH, SL, SF, hfm⟩ := id wd
  refine Con.intro (plainFor_of_name (by first | (simp [plainName, overriddenIn]; done) | decide +kernel)) O hEL ?_
  intro p e s m below meth c T C hs P
  have C : Ctx Z a0 consts_1 p s m meth c "java/lang/String" "<init>" jdk_42_method_149_code 6 none := C
  refine Run.cast (k_i4_3_ef m a b x0 x1 x2) ?_
  refine blk C P [.aload_n 0] (by decide +kernel) (pc' := 1) (L' := [.val (.ref a), .val (.ref b), .val (.int (0 : Int32)), .val (.int (3 : Int32)), .val (.null), .unset]) (S' := [.ref a]) rfl ?_
  refine s_initO C P (idx := 1) (by decide +kernel) (hw _ (List.mem_of_getElem? (i := 20) rfl)) (hw _ (List.mem_of_getElem? (i := 21) rfl)) (hw _ (List.mem_of_getElem? (i := 22) rfl)) rfl (le_ _ _ rfl) (W := 0) (le_ _ _ rfl) (le_ _ _ rfl) (pc' := 4) rfl (fun T1 P1 => ?_)
  refine blk C P1 [.iload_n 3] (by decide +kernel) (pc' := 5) (L' := [.val (.ref a), .val (.ref b), .val (.int (0 : Int32)), .val (.int (3 : Int32)), .val (.null), .unset]) (S' := [.int (3 : Int32)]) rfl ?_
  refine b_ifY C P1 (cd := .ne) (o := 22) (by decide +kernel) (pc' := 27) (by decide) (by decide : ¬ (3 : Int32) = 0) ?_
  refine s_gets C P1 (idx := 38) (by decide +kernel) (hw _ (List.mem_of_getElem? (i := 51) rfl)) Sz (pc' := 30) rfl (fun T2 P2 => ?_)
  refine b_ifN C P2 (cd := .eq) (o := 28) (by decide +kernel) (pc' := 33) rfl hz ?_
  refine blk C P2 [.aload_n 1, .iload_n 2, .iload_n 3] (by decide +kernel) (pc' := 36) (L' := [.val (.ref a), .val (.ref b), .val (.int (0 : Int32)), .val (.int (3 : Int32)), .val (.null), .unset]) (S' := [.int (3 : Int32), .int (0 : Int32), .ref b]) rfl ?_
  refine c_static C P2 (idx := 177) (y := (⟨"java/lang/StringUTF16", "compress", "([CII)[B"⟩ : MethodName)) (ybytes := jdk_52_method_16_code) (ymax := 6) (yret := (some (.array .byte))) (yrm := ({ frames := 3, cells := 2, slots := 9, locals := 40 } : Room)) (by decide +kernel) (hw _ (List.mem_of_getElem? (i := 69) rfl)) (hw _ (List.mem_of_getElem? (i := 70) rfl)) (hw _ (List.mem_of_getElem? (i := 71) rfl)) (hw _ (List.mem_of_getElem? (i := 72) rfl)) (by decide) [.ref b, .int (0 : Int32), .int (3 : Int32)] [] (k_c3_3 l wd b x0 x1 x2 P2.old V any i0 i1 i2) (le_ _ _ rfl) (W := 0) (le_ _ _ rfl) (by decide +kernel : parseMethodDescriptor "([CII)[B" = some ⟨[(.array .char), .int, .int], some (.array .byte)⟩) rfl rfl rfl (le_ _ _ rfl) (le_ _ _ rfl) (le_ _ _ rfl) (pc' := 39) rfl (fun T3 h3 v3 P3 Q3 => ?_)
  replace P3 := P3.more (k' := 2) (n' := 9) (le_ _ _ rfl) (le_ _ _ rfl)
  obtain ⟨b3, rfl, E3, V3⟩ := Q3
  refine blk C P3 [.astore 5, .aload_n 0, .aload 5, .iload_n 3] (by decide +kernel) (pc' := 45) (L' := [.val (.ref a), .val (.ref b), .val (.int (0 : Int32)), .val (.int (3 : Int32)), .val (.null), .val (.ref b3)]) (S' := [.int (3 : Int32), .ref b3, .ref a]) rfl ?_
  refine c_static C P3 (idx := 47) (y := (⟨"java/lang/StringUTF16", "coderFromArrayLen", "([BI)B"⟩ : MethodName)) (ybytes := jdk_52_method_15_code) (ymax := 2) (yret := (some .byte)) (yrm := ({ frames := 0, cells := 0, slots := 0, locals := 0 } : Room)) (by decide +kernel) (hw _ (List.mem_of_getElem? (i := 95) rfl)) (hw _ (List.mem_of_getElem? (i := 96) rfl)) (hw _ (List.mem_of_getElem? (i := 71) rfl)) (hw _ (List.mem_of_getElem? (i := 97) rfl)) (by decide) [.ref b3, .int (3 : Int32)] [.ref a] (k_cl3 l wd b3 x0 x1 x2 P3.old V3) (le_ _ _ rfl) (W := 1) (le_ _ _ rfl) (by decide +kernel : parseMethodDescriptor "([BI)B" = some ⟨[(.array .byte), .int], some .byte⟩) rfl rfl rfl (le_ _ _ rfl) (le_ _ _ rfl) (le_ _ _ rfl) (pc' := 48) rfl (fun T4 h4 v4 P4 Q4 => ?_)
  replace P4 := P4.more (k' := 2) (n' := 9) (le_ _ _ rfl) (le_ _ _ rfl)
  obtain ⟨rfl, rfl⟩ := Q4
  refine s_putS C P4 (idx := 15) (by decide +kernel) (hw _ (List.mem_of_getElem? (i := 30) rfl)) B.1 ((B.2.2 (Or.inr (hw _ (List.mem_of_getElem? (i := 26) rfl))) (ty := .byte) (by decide)).ext E3) (B.2.1.ext E3) ((B.2.2 (Or.inr (hw _ (List.mem_of_getElem? (i := 25) rfl))) (ty := (.array .byte)) (by decide)).ext E3) (hw _ (List.mem_of_getElem? (i := 26) rfl)) rfl (hw _ (List.mem_of_getElem? (i := 7) rfl)) (ty := .byte) (by decide) rfl rfl (pc' := 51) rfl (fun T5 h5 P5 W5 => ?_)
  have G6 := (B.2.1.ext E3).wr W5
  have G7 := ((B.2.2 (Or.inr (hw _ (List.mem_of_getElem? (i := 26) rfl))) (ty := .byte) (by decide)).ext E3).same W5
  have G8 := ((B.2.2 (Or.inr (hw _ (List.mem_of_getElem? (i := 25) rfl))) (ty := (.array .byte)) (by decide)).ext E3).other W5 (Or.inr (slot_ne (C := "java/lang/String") (Or.inr (hw _ (List.mem_of_getElem? (i := 25) rfl))) (Or.inr (hw _ (List.mem_of_getElem? (i := 26) rfl))) (by decide) (t := (.array .byte)) (by decide) (t' := .byte) (by decide)))
  have G9 := Bys.wr V3 W5 (B.2.1.ext E3) (hw _ (List.mem_of_getElem? (i := 7) rfl))
  refine blk C P5 [.aload_n 0, .aload 5] (by decide +kernel) (pc' := 54) (L' := [.val (.ref a), .val (.ref b), .val (.int (0 : Int32)), .val (.int (3 : Int32)), .val (.null), .val (.ref b3)]) (S' := [.ref b3, .ref a]) rfl ?_
  refine s_putS C P5 (idx := 9) (by decide +kernel) (hw _ (List.mem_of_getElem? (i := 29) rfl)) B.1 G8 G6 G8 (hw _ (List.mem_of_getElem? (i := 25) rfl)) rfl (hw _ (List.mem_of_getElem? (i := 7) rfl)) (ty := (.array .byte)) (by decide) rfl rfl (pc' := 57) rfl (fun T10 h10 P10 W10 => ?_)
  have G11 := G6.wr W10
  have G12 := G7.other W10 (Or.inr (slot_ne (C := "java/lang/String") (Or.inr (hw _ (List.mem_of_getElem? (i := 26) rfl))) (Or.inr (hw _ (List.mem_of_getElem? (i := 25) rfl))) (by decide) (t := .byte) (by decide) (t' := (.array .byte)) (by decide)))
  have G13 := G8.same W10
  have G14 := Bys.wr G9 W10 G6 (hw _ (List.mem_of_getElem? (i := 7) rfl))
  exact r_void C P10 (by decide +kernel) (le_ _ _ rfl) (le_ _ _ rfl) ⟨rfl, ⟨((((Keep.refl h [a]).ext E3).wr W5 (Or.inl (List.mem_singleton.mpr rfl))).wr W10 (Or.inl (List.mem_singleton.mpr rfl))), G11, G12, _, G13, G14⟩⟩
theorem k_i1_3_ef (m : MethodId) (a b : Addr) (x0 x1 x2 : Int32) : entryFrame m #[.ref a, .ref b] 2 = fr m 0 [.val (.ref a), .val (.ref b)] [] := by first | (simp [entryFrame, mkF, argsToLocals, Value.category]; done) | rfl
set_option maxRecDepth 65536 in
set_option maxHeartbeats 4000000 in
theorem k_i1_3 (l : Launch) {Z : State} {a0 : Array Value} {n0 : Nat} {h : Heap} {z : Int32} {fm : Value} (wd : Wd Z a0 z fm) (a b : Addr) (x0 x1 x2 : Int32)  (O : Old Z n0 h) (B : Blk Z a0 n0 h a sST) (V : Chs Z n0 h b [x0, x1, x2]) (any : (255 : Int32) < x0 ∨ (255 : Int32) < x1 ∨ (255 : Int32) < x2) (i0 : c16 x0 = x0) (i1 : c16 x1 = x1) (i2 : c16 x2 = x2) :
    Con l Z consts_1 n0 [] (⟨"java/lang/String", "<init>", "([C)V"⟩ : MethodName) jdk_42_method_3_code 2 none ({ frames := 5, cells := 2, slots := 9, locals := 74 } : Room) #[.ref a, .ref b] h (Ret0 fun h' => Keep h h' [a] ∧ Str16 Z n0 h' a [x0, x1, x2]) := by
  obtain ⟨hw, hEL, Sz, hz, SA, SH, SL, SF, hfm⟩ := id wd
  refine Con.intro (plainFor_of_name (by first | (simp [plainName, overriddenIn]; done) | decide +kernel)) O hEL ?_
  intro p e s m below meth c T C hs P
  have C : Ctx Z a0 consts_1 p s m meth c "java/lang/String" "<init>" jdk_42_method_3_code 2 none := C
  refine Run.cast (k_i1_3_ef m a b x0 x1 x2) ?_
  refine blk C P [.aload_n 0, .aload_n 1, .iconst 0, .aload_n 1] (by decide +kernel) (pc' := 4) (L' := [.val (.ref a), .val (.ref b)]) (S' := [.ref b, .int (0 : Int32), .ref b, .ref a]) rfl ?_
  refine s_alenC C P 3 (by decide +kernel) V rfl (pc' := 5) rfl ?_
  refine blk C P [.aconst_null] (by decide +kernel) (pc' := 6) (L' := [.val (.ref a), .val (.ref b)]) (S' := [.null, .int (3 : Int32), .int (0 : Int32), .ref b, .ref a]) rfl ?_
  refine c_special C P (idx := 27) (y := (⟨"java/lang/String", "<init>", "([CIILjava/lang/Void;)V"⟩ : MethodName)) (ybytes := jdk_42_method_149_code) (ymax := 6) (yrm := ({ frames := 4, cells := 2, slots := 9, locals := 57 } : Room)) rfl (by decide +kernel) (hw _ (List.mem_of_getElem? (i := 16) rfl)) (hw _ (List.mem_of_getElem? (i := 17) rfl)) (hw _ (List.mem_of_getElem? (i := 8) rfl)) (hw _ (List.mem_of_getElem? (i := 19) rfl)) (by decide) [.ref b, .int (0 : Int32), .int (3 : Int32), .null] [] (k_i4_3 l wd a b x0 x1 x2 P.old B V any i0 i1 i2) (le_ _ _ rfl) (W := 0) (le_ _ _ rfl) (by decide +kernel : parseMethodDescriptor "([CIILjava/lang/Void;)V" = some ⟨[(.array .char), .int, .int, (.object "java/lang/Void")], none⟩) rfl rfl rfl (le_ _ _ rfl) (le_ _ _ rfl) (le_ _ _ rfl) (pc' := 9) rfl (fun T1 h1 P1 Q1 => ?_)
  replace P1 := P1.more (k' := 2) (n' := 9) (le_ _ _ rfl) (le_ _ _ rfl)
  obtain ⟨K1, S1⟩ := Q1
  exact r_void C P1 (by decide +kernel) (le_ _ _ rfl) (le_ _ _ rfl) ⟨rfl, ⟨K1, S1⟩⟩
theorem k_mn3_ef (m : MethodId)  : entryFrame m #[.int (3 : Int32), .int (3 : Int32)] 2 = fr m 0 [.val (.int (3 : Int32)), .val (.int (3 : Int32))] [] := by first | (simp [entryFrame, mkF, argsToLocals, Value.category]; done) | rfl
set_option maxRecDepth 65536 in
set_option maxHeartbeats 4000000 in
theorem k_mn3 (l : Launch) {Z : State} {a0 : Array Value} {n0 : Nat} {h : Heap} {z : Int32} {fm : Value} (wd : Wd Z a0 z fm)   (O : Old Z n0 h)  :
    Con l Z consts_1 n0 [] (⟨"java/lang/Math", "min", "(II)I"⟩ : MethodName) jdk_29_method_69_code 2 (some .int) ({ frames := 0, cells := 0, slots := 0, locals := 0 } : Room) #[.int (3 : Int32), .int (3 : Int32)] h (Ret1 fun v h' => v = .int 3 ∧ h = h') := by
  obtain ⟨hw, hEL, Sz, hz, SA, SH, SL, SF, hfm⟩ := id wd
  refine Con.intro (by decide +kernel) O hEL ?_
  intro p e s m below meth c T C hs P
  have C : Ctx Z a0 consts_1 p s m meth c "java/lang/Math" "min" jdk_29_method_69_code 2 (some .int) := C
  refine Run.cast (k_mn3_ef m) ?_
  refine blk C P [.iload_n 0, .iload_n 1] (by decide +kernel) (pc' := 2) (L' := [.val (.int (3 : Int32)), .val (.int (3 : Int32))]) (S' := [.int (3 : Int32), .int (3 : Int32)]) rfl ?_
  refine b_cmN C P (cd := .gt) (o := 7) (by decide +kernel) (pc' := 5) rfl (by decide : ¬ (3 : Int32) < (3 : Int32)) ?_
  refine blk C P [.iload_n 0] (by decide +kernel) (pc' := 6) (L' := [.val (.int (3 : Int32)), .val (.int (3 : Int32))]) (S' := [.int (3 : Int32)]) rfl ?_
  refine b_goto C P (o := 4) (by decide +kernel) (pc' := 10) (by decide) ?_
  exact r_int C P (ty := .int) (by simp) rfl (by decide +kernel) (le_ _ _ rfl) (le_ _ _ rfl) ⟨_, rfl, ⟨rfl, rfl⟩⟩
theorem k_ln3_ef (m : MethodId) (t : Addr) (x0 x1 x2 : Int32) : entryFrame m #[.ref t] 1 = fr m 0 [.val (.ref t)] [] := by first | (simp [entryFrame, mkF, argsToLocals, Value.category]; done) | rfl
set_option maxRecDepth 65536 in
set_option maxHeartbeats 4000000 in
theorem k_ln3 (l : Launch) {Z : State} {a0 : Array Value} {n0 : Nat} {h : Heap} {z : Int32} {fm : Value} (wd : Wd Z a0 z fm) (t : Addr) (x0 x1 x2 : Int32)  (O : Old Z n0 h) (B : Bys Z n0 h t (wide [x0, x1, x2])) :
    Con l Z consts_1 n0 [] (⟨"java/lang/StringUTF16", "length", "([B)I"⟩ : MethodName) jdk_52_method_6_code 1 (some .int) ({ frames := 0, cells := 0, slots := 0, locals := 0 } : Room) #[.ref t] h (Ret1 fun v h' => v = .int 3 ∧ h = h') := by
  obtain ⟨hw, hEL, Sz, hz, SA, SH, SL, SF, hfm⟩ := id wd
  refine Con.intro (plainFor_of_name (by first | (simp [plainName, overriddenIn]; done) | decide +kernel)) O hEL ?_
  intro p e s m below meth c T C hs P
  have C : Ctx Z a0 consts_1 p s m meth c "java/lang/StringUTF16" "length" jdk_52_method_6_code 1 (some .int) := C
  refine Run.cast (k_ln3_ef m t x0 x1 x2) ?_
  refine blk C P [.aload_n 0] (by decide +kernel) (pc' := 1) (L' := [.val (.ref t)]) (S' := [.ref t]) rfl ?_
  refine s_alenB C P 6 (by decide +kernel) B rfl (pc' := 2) rfl ?_
  refine blk C P [.iconst 1, .ishr] (by decide +kernel) (pc' := 4) (L' := [.val (.ref t)]) (S' := [.int (3 : Int32)]) rfl ?_
  exact r_int C P (ty := .int) (by simp) rfl (by decide +kernel) (le_ _ _ rfl) (le_ _ _ rfl) ⟨_, rfl, ⟨rfl, rfl⟩⟩
theorem k_cf3_ef (m : MethodId)  {fm : Value} (hfm : fm.isRef = true) : entryFrame m #[.int (0 : Int32), .int (3 : Int32), .int (3 : Int32), fm] 4 = fr m 0 [.val (.int (0 : Int32)), .val (.int (3 : Int32)), .val (.int (3 : Int32)), .val (fm)] [] := by rcases ref_cases hfm with rfl | ⟨q, rfl⟩ <;> first | (simp [entryFrame, mkF, argsToLocals, Value.category]; done) | rfl
set_option maxRecDepth 65536 in
set_option maxHeartbeats 4000000 in
theorem k_cf3 (l : Launch) {Z : State} {a0 : Array Value} {n0 : Nat} {h : Heap} {z : Int32} {fm : Value} (wd : Wd Z a0 z fm)   (O : Old Z n0 h)  :
    Con l Z consts_1 n0 [] (⟨"jdk/internal/util/Preconditions", "checkFromToIndex", "(IIILjava/util/function/BiFunction;)I"⟩ : MethodName) jdk_41_method_12_code 4 (some .int) ({ frames := 0, cells := 0, slots := 0, locals := 0 } : Room) #[.int (0 : Int32), .int (3 : Int32), .int (3 : Int32), fm] h (Ret1 fun v h' => v = .int 0 ∧ h = h') := by
  obtain ⟨hw, hEL, Sz, hz, SA, SH, SL, SF, hfm⟩ := id wd
  refine Con.intro (plainFor_of_name (by first | (simp [plainName, overriddenIn]; done) | decide +kernel)) O hEL ?_
  intro p e s m below meth c T C hs P
  have C : Ctx Z a0 consts_1 p s m meth c "jdk/internal/util/Preconditions" "checkFromToIndex" jdk_41_method_12_code 4 (some .int) := C
  refine Run.cast (k_cf3_ef m hfm) ?_
  refine blk C P [.iload_n 0] (by decide +kernel) (pc' := 1) (L' := [.val (.int (0 : Int32)), .val (.int (3 : Int32)), .val (.int (3 : Int32)), .val (fm)]) (S' := [.int (0 : Int32)]) rfl ?_
  refine b_ifN C P (cd := .lt) (o := 13) (by decide +kernel) (pc' := 4) rfl (by decide : ¬ (0 : Int32) < 0) ?_
  refine blk C P [.iload_n 0, .iload_n 1] (by decide +kernel) (pc' := 6) (L' := [.val (.int (0 : Int32)), .val (.int (3 : Int32)), .val (.int (3 : Int32)), .val (fm)]) (S' := [.int (3 : Int32), .int (0 : Int32)]) rfl ?_
  refine b_cmN C P (cd := .gt) (o := 8) (by decide +kernel) (pc' := 9) rfl (by decide : ¬ (3 : Int32) < (0 : Int32)) ?_
  refine blk C P [.iload_n 1, .iload_n 2] (by decide +kernel) (pc' := 11) (L' := [.val (.int (0 : Int32)), .val (.int (3 : Int32)), .val (.int (3 : Int32)), .val (fm)]) (S' := [.int (3 : Int32), .int (3 : Int32)]) rfl ?_
  refine b_cmY C P (cd := .le) (o := 11) (by decide +kernel) (pc' := 22) (by decide) (by decide : ¬ (3 : Int32) < (3 : Int32)) ?_
  refine blk C P [.iload_n 0] (by decide +kernel) (pc' := 23) (L' := [.val (.int (0 : Int32)), .val (.int (3 : Int32)), .val (.int (3 : Int32)), .val (fm)]) (S' := [.int (0 : Int32)]) rfl ?_
  exact r_int C P (ty := .int) (by simp) rfl (by decide +kernel) (le_ _ _ rfl) (le_ _ _ rfl) ⟨_, rfl, ⟨rfl, rfl⟩⟩
theorem k_sc3_ef (m : MethodId)  : entryFrame m #[.int (0 : Int32), .int (3 : Int32), .int (3 : Int32)] 3 = fr m 0 [.val (.int (0 : Int32)), .val (.int (3 : Int32)), .val (.int (3 : Int32))] [] := by first | (simp [entryFrame, mkF, argsToLocals, Value.category]; done) | rfl
set_option maxRecDepth 65536 in
set_option maxHeartbeats 4000000 in
theorem k_sc3 (l : Launch) {Z : State} {a0 : Array Value} {n0 : Nat} {h : Heap} {z : Int32} {fm : Value} (wd : Wd Z a0 z fm)   (O : Old Z n0 h)  :
    Con l Z consts_1 n0 [] (⟨"java/lang/String", "checkBoundsBeginEnd", "(III)V"⟩ : MethodName) jdk_42_method_158_code 3 none ({ frames := 1, cells := 0, slots := 0, locals := 15 } : Room) #[.int (0 : Int32), .int (3 : Int32), .int (3 : Int32)] h (Ret0 fun h' => h = h') := by
  obtain ⟨hw, hEL, Sz, hz, SA, SH, SL, SF, hfm⟩ := id wd
  refine Con.intro (plainFor_of_name (by first | (simp [plainName, overriddenIn]; done) | decide +kernel)) O hEL ?_
  intro p e s m below meth c T C hs P
  have C : Ctx Z a0 consts_1 p s m meth c "java/lang/String" "checkBoundsBeginEnd" jdk_42_method_158_code 3 none := C
  refine Run.cast (k_sc3_ef m) ?_
  refine blk C P [.iload_n 0, .iload_n 1, .iload_n 2] (by decide +kernel) (pc' := 3) (L' := [.val (.int (0 : Int32)), .val (.int (3 : Int32)), .val (.int (3 : Int32))]) (S' := [.int (3 : Int32), .int (3 : Int32), .int (0 : Int32)]) rfl ?_
  refine s_gets C P (idx := 1053) (by decide +kernel) (hw _ (List.mem_of_getElem? (i := 121) rfl)) SF (pc' := 6) rfl (fun T1 P1 => ?_)
  refine c_static C P1 (idx := 1062) (y := (⟨"jdk/internal/util/Preconditions", "checkFromToIndex", "(IIILjava/util/function/BiFunction;)I"⟩ : MethodName)) (ybytes := jdk_41_method_12_code) (ymax := 4) (yret := (some .int)) (yrm := ({ frames := 0, cells := 0, slots := 0, locals := 0 } : Room)) (by decide +kernel) (hw _ (List.mem_of_getElem? (i := 123) rfl)) (hw _ (List.mem_of_getElem? (i := 124) rfl)) (hw _ (List.mem_of_getElem? (i := 122) rfl)) (hw _ (List.mem_of_getElem? (i := 125) rfl)) (by decide) [.int (0 : Int32), .int (3 : Int32), .int (3 : Int32), fm] [] (k_cf3 l wd  P1.old ) (le_ _ _ rfl) (W := 0) (le_ _ _ rfl) (by decide +kernel : parseMethodDescriptor "(IIILjava/util/function/BiFunction;)I" = some ⟨[.int, .int, .int, (.object "java/util/function/BiFunction")], some .int⟩) rfl rfl rfl (le_ _ _ rfl) (le_ _ _ rfl) (le_ _ _ rfl) (pc' := 9) rfl (fun T2 h2 v2 P2 Q2 => ?_)
  replace P2 := P2.more (k' := 0) (n' := 0) (le_ _ _ rfl) (le_ _ _ rfl)
  obtain ⟨rfl, rfl⟩ := Q2
  refine blk C P2 [.pop] (by decide +kernel) (pc' := 10) (L' := [.val (.int (0 : Int32)), .val (.int (3 : Int32)), .val (.int (3 : Int32))]) (S' := []) rfl ?_
  exact r_void C P2 (by decide +kernel) (le_ _ _ rfl) (le_ _ _ rfl) ⟨rfl, rfl⟩
theorem k_cb3_ef (m : MethodId) (t : Addr) (x0 x1 x2 : Int32) : entryFrame m #[.int (0 : Int32), .int (3 : Int32), .ref t] 3 = fr m 0 [.val (.int (0 : Int32)), .val (.int (3 : Int32)), .val (.ref t)] [] := by first | (simp [entryFrame, mkF, argsToLocals, Value.category]; done) | rfl
set_option maxRecDepth 65536 in
set_option maxHeartbeats 4000000 in
theorem k_cb3 (l : Launch) {Z : State} {a0 : Array Value} {n0 : Nat} {h : Heap} {z : Int32} {fm : Value} (wd : Wd Z a0 z fm) (t : Addr) (x0 x1 x2 : Int32)  (O : Old Z n0 h) (B : Bys Z n0 h t (wide [x0, x1, x2])) :
    Con l Z consts_1 n0 [] (⟨"java/lang/StringUTF16", "checkBoundsBeginEnd", "(II[B)V"⟩ : MethodName) jdk_52_method_93_code 3 none ({ frames := 2, cells := 0, slots := 0, locals := 29 } : Room) #[.int (0 : Int32), .int (3 : Int32), .ref t] h (Ret0 fun h' => h = h') := by
  obtain ⟨hw, hEL, Sz, hz, SA, SH, SL, SF, hfm⟩ := id wd
  refine Con.intro (plainFor_of_name (by first | (simp [plainName, overriddenIn]; done) | decide +kernel)) O hEL ?_
  intro p e s m below meth c T C hs P
  have C : Ctx Z a0 consts_1 p s m meth c "java/lang/StringUTF16" "checkBoundsBeginEnd" jdk_52_method_93_code 3 none := C
  refine Run.cast (k_cb3_ef m t x0 x1 x2) ?_
  refine blk C P [.iload_n 0, .iload_n 1, .aload_n 2] (by decide +kernel) (pc' := 3) (L' := [.val (.int (0 : Int32)), .val (.int (3 : Int32)), .val (.ref t)]) (S' := [.ref t, .int (3 : Int32), .int (0 : Int32)]) rfl ?_
  refine c_static C P (idx := 48) (y := (⟨"java/lang/StringUTF16", "length", "([B)I"⟩ : MethodName)) (ybytes := jdk_52_method_6_code) (ymax := 1) (yret := (some .int)) (yrm := ({ frames := 0, cells := 0, slots := 0, locals := 0 } : Room)) (by decide +kernel) (hw _ (List.mem_of_getElem? (i := 115) rfl)) (hw _ (List.mem_of_getElem? (i := 116) rfl)) (hw _ (List.mem_of_getElem? (i := 71) rfl)) (hw _ (List.mem_of_getElem? (i := 117) rfl)) (by decide) [.ref t] [.int (3 : Int32), .int (0 : Int32)] (k_ln3 l wd t x0 x1 x2 P.old B) (le_ _ _ rfl) (W := 2) (le_ _ _ rfl) (by decide +kernel : parseMethodDescriptor "([B)I" = some ⟨[(.array .byte)], some .int⟩) rfl rfl rfl (le_ _ _ rfl) (le_ _ _ rfl) (le_ _ _ rfl) (pc' := 6) rfl (fun T1 h1 v1 P1 Q1 => ?_)
  replace P1 := P1.more (k' := 0) (n' := 0) (le_ _ _ rfl) (le_ _ _ rfl)
  obtain ⟨rfl, rfl⟩ := Q1
  refine c_static0 C P1 (idx := 241) (y := (⟨"java/lang/String", "checkBoundsBeginEnd", "(III)V"⟩ : MethodName)) (ybytes := jdk_42_method_158_code) (ymax := 3) (yrm := ({ frames := 1, cells := 0, slots := 0, locals := 15 } : Room)) (by decide +kernel) (hw _ (List.mem_of_getElem? (i := 118) rfl)) (hw _ (List.mem_of_getElem? (i := 119) rfl)) (hw _ (List.mem_of_getElem? (i := 8) rfl)) (hw _ (List.mem_of_getElem? (i := 120) rfl)) (by decide) [.int (0 : Int32), .int (3 : Int32), .int (3 : Int32)] [] (k_sc3 l wd  P1.old ) (le_ _ _ rfl) (W := 0) (le_ _ _ rfl) (by decide +kernel : parseMethodDescriptor "(III)V" = some ⟨[.int, .int, .int], none⟩) rfl rfl rfl (le_ _ _ rfl) (le_ _ _ rfl) (le_ _ _ rfl) (pc' := 9) rfl (fun T2 h2 P2 Q2 => ?_)
  replace P2 := P2.more (k' := 0) (n' := 0) (le_ _ _ rfl) (le_ _ _ rfl)
  obtain rfl := Q2
  exact r_void C P2 (by decide +kernel) (le_ _ _ rfl) (le_ _ _ rfl) ⟨rfl, rfl⟩
theorem k_iu3_ef (m : MethodId) (t : Addr) (x0 x1 x2 : Int32) : entryFrame m #[.ref t, .int (65533 : Int32), .int (0 : Int32), .int (3 : Int32)] 5 = fr m 0 [.val (.ref t), .val (.int (65533 : Int32)), .val (.int (0 : Int32)), .val (.int (3 : Int32)), .unset] [] := by first | (simp [entryFrame, mkF, argsToLocals, Value.category]; done) | rfl
set_option maxRecDepth 65536 in
set_option maxHeartbeats 4000000 in
theorem k_iu3 (l : Launch) {Z : State} {a0 : Array Value} {n0 : Nat} {h : Heap} {z : Int32} {fm : Value} (wd : Wd Z a0 z fm) (t : Addr) (x0 x1 x2 : Int32)  (O : Old Z n0 h) (B : Bys Z n0 h t (wide [x0, x1, x2])) (i0 : c16 x0 = x0) (i1 : c16 x1 = x1) (i2 : c16 x2 = x2) :
    Con l Z consts_1 n0 [] (⟨"java/lang/StringUTF16", "indexOfCharUnsafe", "([BIII)I"⟩ : MethodName) jdk_52_method_48_code 5 (some .int) ({ frames := 1, cells := 0, slots := 0, locals := 13 } : Room) #[.ref t, .int (65533 : Int32), .int (0 : Int32), .int (3 : Int32)] h (Ret1 fun v h' => ∃ w, v = .int w ∧ h = h' ∧ ((¬ w < 0 ∧ Lost [x0, x1, x2]) ∨ (w < 0 ∧ ¬ Lost [x0, x1, x2]))) := by
  obtain ⟨hw, hEL, Sz, hz, SA, SH, SL, SF, hfm⟩ := id wd
  refine Con.intro (plainFor_of_name (by first | (simp [plainName, overriddenIn]; done) | decide +kernel)) O hEL ?_
  intro p e s m below meth c T C hs P
  have C : Ctx Z a0 consts_1 p s m meth c "java/lang/StringUTF16" "indexOfCharUnsafe" jdk_52_method_48_code 5 (some .int) := C
  refine Run.cast (k_iu3_ef m t x0 x1 x2) ?_
  refine blk C P [.iload_n 2, .istore 4, .iload 4, .iload_n 3] (by decide +kernel) (pc' := 6) (L' := [.val (.ref t), .val (.int (65533 : Int32)), .val (.int (0 : Int32)), .val (.int (3 : Int32)), .val (.int (0 : Int32))]) (S' := [.int (3 : Int32), .int (0 : Int32)]) rfl ?_
  refine b_cmN C P (cd := .ge) (o := 22) (by decide +kernel) (pc' := 9) rfl (by decide : (0 : Int32) < (3 : Int32)) ?_
  refine blk C P [.aload_n 0, .iload 4] (by decide +kernel) (pc' := 12) (L' := [.val (.ref t), .val (.int (65533 : Int32)), .val (.int (0 : Int32)), .val (.int (3 : Int32)), .val (.int (0 : Int32))]) (S' := [.int (0 : Int32), .ref t]) rfl ?_
  refine c_static C P (idx := 71) (y := (⟨"java/lang/StringUTF16", "getChar", "([BI)C"⟩ : MethodName)) (ybytes := jdk_52_method_5_code) (ymax := 2) (yret := (some .char)) (yrm := ({ frames := 0, cells := 0, slots := 0, locals := 0 } : Room)) (by decide +kernel) (hw _ (List.mem_of_getElem? (i := 92) rfl)) (hw _ (List.mem_of_getElem? (i := 93) rfl)) (hw _ (List.mem_of_getElem? (i := 71) rfl)) (hw _ (List.mem_of_getElem? (i := 94) rfl)) (by decide) [.ref t, .int (0 : Int32)] [] (k_gc0 l wd t x0 P.old B rfl rfl i0) (le_ _ _ rfl) (W := 0) (le_ _ _ rfl) (by decide +kernel : parseMethodDescriptor "([BI)C" = some ⟨[(.array .byte), .int], some .char⟩) rfl rfl rfl (le_ _ _ rfl) (le_ _ _ rfl) (le_ _ _ rfl) (pc' := 15) rfl (fun T1 h1 v1 P1 Q1 => ?_)
  replace P1 := P1.more (k' := 0) (n' := 0) (le_ _ _ rfl) (le_ _ _ rfl)
  obtain ⟨rfl, rfl⟩ := Q1
  refine blk C P1 [.iload_n 1] (by decide +kernel) (pc' := 16) (L' := [.val (.ref t), .val (.int (65533 : Int32)), .val (.int (0 : Int32)), .val (.int (3 : Int32)), .val (.int (0 : Int32))]) (S' := [.int (65533 : Int32), .int x0]) rfl ?_
  refine b_cm C P1 (cd := .ne) (o := 6) (by decide +kernel) (pc' := 22) (by decide) (pn := 19) rfl (fun (q2 : ¬ x0 = (65533 : Int32)) => ?_) (fun (q2 : x0 = (65533 : Int32)) => ?_)
  · skip
    refine blk C P1 [.iinc 4 1] (by decide +kernel) (pc' := 25) (L' := [.val (.ref t), .val (.int (65533 : Int32)), .val (.int (0 : Int32)), .val (.int (3 : Int32)), .val (.int (1 : Int32))]) (S' := []) rfl ?_
    refine b_goto C P1 (o := -22) (by decide +kernel) (pc' := 3) (by decide) ?_
    refine blk C P1 [.iload 4, .iload_n 3] (by decide +kernel) (pc' := 6) (L' := [.val (.ref t), .val (.int (65533 : Int32)), .val (.int (0 : Int32)), .val (.int (3 : Int32)), .val (.int (1 : Int32))]) (S' := [.int (3 : Int32), .int (1 : Int32)]) rfl ?_
    refine b_cmN C P1 (cd := .ge) (o := 22) (by decide +kernel) (pc' := 9) rfl (by decide : (1 : Int32) < (3 : Int32)) ?_
    refine blk C P1 [.aload_n 0, .iload 4] (by decide +kernel) (pc' := 12) (L' := [.val (.ref t), .val (.int (65533 : Int32)), .val (.int (0 : Int32)), .val (.int (3 : Int32)), .val (.int (1 : Int32))]) (S' := [.int (1 : Int32), .ref t]) rfl ?_
    refine c_static C P1 (idx := 71) (y := (⟨"java/lang/StringUTF16", "getChar", "([BI)C"⟩ : MethodName)) (ybytes := jdk_52_method_5_code) (ymax := 2) (yret := (some .char)) (yrm := ({ frames := 0, cells := 0, slots := 0, locals := 0 } : Room)) (by decide +kernel) (hw _ (List.mem_of_getElem? (i := 92) rfl)) (hw _ (List.mem_of_getElem? (i := 93) rfl)) (hw _ (List.mem_of_getElem? (i := 71) rfl)) (hw _ (List.mem_of_getElem? (i := 94) rfl)) (by decide) [.ref t, .int (1 : Int32)] [] (k_gc1 l wd t x1 P1.old B rfl rfl i1) (le_ _ _ rfl) (W := 0) (le_ _ _ rfl) (by decide +kernel : parseMethodDescriptor "([BI)C" = some ⟨[(.array .byte), .int], some .char⟩) rfl rfl rfl (le_ _ _ rfl) (le_ _ _ rfl) (le_ _ _ rfl) (pc' := 15) rfl (fun T3 h3 v3 P3 Q3 => ?_)
    replace P3 := P3.more (k' := 0) (n' := 0) (le_ _ _ rfl) (le_ _ _ rfl)
    obtain ⟨rfl, rfl⟩ := Q3
    refine blk C P3 [.iload_n 1] (by decide +kernel) (pc' := 16) (L' := [.val (.ref t), .val (.int (65533 : Int32)), .val (.int (0 : Int32)), .val (.int (3 : Int32)), .val (.int (1 : Int32))]) (S' := [.int (65533 : Int32), .int x1]) rfl ?_
    refine b_cm C P3 (cd := .ne) (o := 6) (by decide +kernel) (pc' := 22) (by decide) (pn := 19) rfl (fun (q4 : ¬ x1 = (65533 : Int32)) => ?_) (fun (q4 : x1 = (65533 : Int32)) => ?_)
    · skip
      refine blk C P3 [.iinc 4 1] (by decide +kernel) (pc' := 25) (L' := [.val (.ref t), .val (.int (65533 : Int32)), .val (.int (0 : Int32)), .val (.int (3 : Int32)), .val (.int (2 : Int32))]) (S' := []) rfl ?_
      refine b_goto C P3 (o := -22) (by decide +kernel) (pc' := 3) (by decide) ?_
      refine blk C P3 [.iload 4, .iload_n 3] (by decide +kernel) (pc' := 6) (L' := [.val (.ref t), .val (.int (65533 : Int32)), .val (.int (0 : Int32)), .val (.int (3 : Int32)), .val (.int (2 : Int32))]) (S' := [.int (3 : Int32), .int (2 : Int32)]) rfl ?_
      refine b_cmN C P3 (cd := .ge) (o := 22) (by decide +kernel) (pc' := 9) rfl (by decide : (2 : Int32) < (3 : Int32)) ?_
      refine blk C P3 [.aload_n 0, .iload 4] (by decide +kernel) (pc' := 12) (L' := [.val (.ref t), .val (.int (65533 : Int32)), .val (.int (0 : Int32)), .val (.int (3 : Int32)), .val (.int (2 : Int32))]) (S' := [.int (2 : Int32), .ref t]) rfl ?_
      refine c_static C P3 (idx := 71) (y := (⟨"java/lang/StringUTF16", "getChar", "([BI)C"⟩ : MethodName)) (ybytes := jdk_52_method_5_code) (ymax := 2) (yret := (some .char)) (yrm := ({ frames := 0, cells := 0, slots := 0, locals := 0 } : Room)) (by decide +kernel) (hw _ (List.mem_of_getElem? (i := 92) rfl)) (hw _ (List.mem_of_getElem? (i := 93) rfl)) (hw _ (List.mem_of_getElem? (i := 71) rfl)) (hw _ (List.mem_of_getElem? (i := 94) rfl)) (by decide) [.ref t, .int (2 : Int32)] [] (k_gc2 l wd t x2 P3.old B rfl rfl i2) (le_ _ _ rfl) (W := 0) (le_ _ _ rfl) (by decide +kernel : parseMethodDescriptor "([BI)C" = some ⟨[(.array .byte), .int], some .char⟩) rfl rfl rfl (le_ _ _ rfl) (le_ _ _ rfl) (le_ _ _ rfl) (pc' := 15) rfl (fun T5 h5 v5 P5 Q5 => ?_)
      replace P5 := P5.more (k' := 0) (n' := 0) (le_ _ _ rfl) (le_ _ _ rfl)
      obtain ⟨rfl, rfl⟩ := Q5
      refine blk C P5 [.iload_n 1] (by decide +kernel) (pc' := 16) (L' := [.val (.ref t), .val (.int (65533 : Int32)), .val (.int (0 : Int32)), .val (.int (3 : Int32)), .val (.int (2 : Int32))]) (S' := [.int (65533 : Int32), .int x2]) rfl ?_
      refine b_cm C P5 (cd := .ne) (o := 6) (by decide +kernel) (pc' := 22) (by decide) (pn := 19) rfl (fun (q6 : ¬ x2 = (65533 : Int32)) => ?_) (fun (q6 : x2 = (65533 : Int32)) => ?_)
      · skip
        refine blk C P5 [.iinc 4 1] (by decide +kernel) (pc' := 25) (L' := [.val (.ref t), .val (.int (65533 : Int32)), .val (.int (0 : Int32)), .val (.int (3 : Int32)), .val (.int (3 : Int32))]) (S' := []) rfl ?_
        refine b_goto C P5 (o := -22) (by decide +kernel) (pc' := 3) (by decide) ?_
        refine blk C P5 [.iload 4, .iload_n 3] (by decide +kernel) (pc' := 6) (L' := [.val (.ref t), .val (.int (65533 : Int32)), .val (.int (0 : Int32)), .val (.int (3 : Int32)), .val (.int (3 : Int32))]) (S' := [.int (3 : Int32), .int (3 : Int32)]) rfl ?_
        refine b_cmY C P5 (cd := .ge) (o := 22) (by decide +kernel) (pc' := 28) (by decide) (by decide : ¬ (3 : Int32) < (3 : Int32)) ?_
        refine blk C P5 [.iconst (-1)] (by decide +kernel) (pc' := 29) (L' := [.val (.ref t), .val (.int (65533 : Int32)), .val (.int (0 : Int32)), .val (.int (3 : Int32)), .val (.int (3 : Int32))]) (S' := [.int (-1 : Int32)]) rfl ?_
        exact r_int C P5 (ty := .int) (by simp) rfl (by decide +kernel) (le_ _ _ rfl) (le_ _ _ rfl) ⟨_, rfl, ⟨_, rfl, rfl, Or.inr ⟨by decide, (lostN q2 (lostN q4 (lostN q6 lost0)))⟩⟩⟩
      · skip
        refine blk C P5 [.iload 4] (by decide +kernel) (pc' := 21) (L' := [.val (.ref t), .val (.int (65533 : Int32)), .val (.int (0 : Int32)), .val (.int (3 : Int32)), .val (.int (2 : Int32))]) (S' := [.int (2 : Int32)]) rfl ?_
        exact r_int C P5 (ty := .int) (by simp) rfl (by decide +kernel) (le_ _ _ rfl) (le_ _ _ rfl) ⟨_, rfl, ⟨_, rfl, rfl, Or.inl ⟨by decide, (lostS (lostS (lostY q6)))⟩⟩⟩
    · skip
      refine blk C P3 [.iload 4] (by decide +kernel) (pc' := 21) (L' := [.val (.ref t), .val (.int (65533 : Int32)), .val (.int (0 : Int32)), .val (.int (3 : Int32)), .val (.int (1 : Int32))]) (S' := [.int (1 : Int32)]) rfl ?_
      exact r_int C P3 (ty := .int) (by simp) rfl (by decide +kernel) (le_ _ _ rfl) (le_ _ _ rfl) ⟨_, rfl, ⟨_, rfl, rfl, Or.inl ⟨by decide, (lostS (lostY q4))⟩⟩⟩
  · skip
    refine blk C P1 [.iload 4] (by decide +kernel) (pc' := 21) (L' := [.val (.ref t), .val (.int (65533 : Int32)), .val (.int (0 : Int32)), .val (.int (3 : Int32)), .val (.int (0 : Int32))]) (S' := [.int (0 : Int32)]) rfl ?_
    exact r_int C P1 (ty := .int) (by simp) rfl (by decide +kernel) (le_ _ _ rfl) (le_ _ _ rfl) ⟨_, rfl, ⟨_, rfl, rfl, Or.inl ⟨by decide, (lostY q2)⟩⟩⟩
theorem k_ic3_ef (m : MethodId) (t : Addr) (x0 x1 x2 : Int32) : entryFrame m #[.ref t, .int (65533 : Int32), .int (0 : Int32), .int (3 : Int32)] 4 = fr m 0 [.val (.ref t), .val (.int (65533 : Int32)), .val (.int (0 : Int32)), .val (.int (3 : Int32))] [] := by first | (simp [entryFrame, mkF, argsToLocals, Value.category]; done) | rfl
set_option maxRecDepth 65536 in
set_option maxHeartbeats 4000000 in
theorem k_ic3 (l : Launch) {Z : State} {a0 : Array Value} {n0 : Nat} {h : Heap} {z : Int32} {fm : Value} (wd : Wd Z a0 z fm) (t : Addr) (x0 x1 x2 : Int32)  (O : Old Z n0 h) (B : Bys Z n0 h t (wide [x0, x1, x2])) (i0 : c16 x0 = x0) (i1 : c16 x1 = x1) (i2 : c16 x2 = x2) :
    Con l Z consts_1 n0 [] (⟨"java/lang/StringUTF16", "indexOfChar", "([BIII)I"⟩ : MethodName) jdk_52_method_47_code 4 (some .int) ({ frames := 3, cells := 0, slots := 0, locals := 43 } : Room) #[.ref t, .int (65533 : Int32), .int (0 : Int32), .int (3 : Int32)] h (Ret1 fun v h' => ∃ w, v = .int w ∧ h = h' ∧ ((¬ w < 0 ∧ Lost [x0, x1, x2]) ∨ (w < 0 ∧ ¬ Lost [x0, x1, x2]))) := by
  obtain ⟨hw, hEL, Sz, hz, SA, SH, SL, SF, hfm⟩ := id wd
  refine Con.intro (plainFor_of_name (by first | (simp [plainName, overriddenIn]; done) | decide +kernel)) O hEL ?_
  intro p e s m below meth c T C hs P
  have C : Ctx Z a0 consts_1 p s m meth c "java/lang/StringUTF16" "indexOfChar" jdk_52_method_47_code 4 (some .int) := C
  refine Run.cast (k_ic3_ef m t x0 x1 x2) ?_
  refine blk C P [.iload_n 2, .iload_n 3, .aload_n 0] (by decide +kernel) (pc' := 3) (L' := [.val (.ref t), .val (.int (65533 : Int32)), .val (.int (0 : Int32)), .val (.int (3 : Int32))]) (S' := [.ref t, .int (3 : Int32), .int (0 : Int32)]) rfl ?_
  refine c_static0 C P (idx := 96) (y := (⟨"java/lang/StringUTF16", "checkBoundsBeginEnd", "(II[B)V"⟩ : MethodName)) (ybytes := jdk_52_method_93_code) (ymax := 3) (yrm := ({ frames := 2, cells := 0, slots := 0, locals := 29 } : Room)) (by decide +kernel) (hw _ (List.mem_of_getElem? (i := 112) rfl)) (hw _ (List.mem_of_getElem? (i := 113) rfl)) (hw _ (List.mem_of_getElem? (i := 71) rfl)) (hw _ (List.mem_of_getElem? (i := 114) rfl)) (by decide) [.int (0 : Int32), .int (3 : Int32), .ref t] [] (k_cb3 l wd t x0 x1 x2 P.old B) (le_ _ _ rfl) (W := 0) (le_ _ _ rfl) (by decide +kernel : parseMethodDescriptor "(II[B)V" = some ⟨[.int, .int, (.array .byte)], none⟩) rfl rfl rfl (le_ _ _ rfl) (le_ _ _ rfl) (le_ _ _ rfl) (pc' := 6) rfl (fun T1 h1 P1 Q1 => ?_)
  replace P1 := P1.more (k' := 0) (n' := 0) (le_ _ _ rfl) (le_ _ _ rfl)
  obtain rfl := Q1
  refine blk C P1 [.aload_n 0, .iload_n 1, .iload_n 2, .iload_n 3] (by decide +kernel) (pc' := 10) (L' := [.val (.ref t), .val (.int (65533 : Int32)), .val (.int (0 : Int32)), .val (.int (3 : Int32))]) (S' := [.int (3 : Int32), .int (0 : Int32), .int (65533 : Int32), .ref t]) rfl ?_
  refine c_static C P1 (idx := 244) (y := (⟨"java/lang/StringUTF16", "indexOfCharUnsafe", "([BIII)I"⟩ : MethodName)) (ybytes := jdk_52_method_48_code) (ymax := 5) (yret := (some .int)) (yrm := ({ frames := 1, cells := 0, slots := 0, locals := 13 } : Room)) (by decide +kernel) (hw _ (List.mem_of_getElem? (i := 126) rfl)) (hw _ (List.mem_of_getElem? (i := 127) rfl)) (hw _ (List.mem_of_getElem? (i := 71) rfl)) (hw _ (List.mem_of_getElem? (i := 128) rfl)) (by decide) [.ref t, .int (65533 : Int32), .int (0 : Int32), .int (3 : Int32)] [] (k_iu3 l wd t x0 x1 x2 P1.old B i0 i1 i2) (le_ _ _ rfl) (W := 0) (le_ _ _ rfl) (by decide +kernel : parseMethodDescriptor "([BIII)I" = some ⟨[(.array .byte), .int, .int, .int], some .int⟩) rfl rfl rfl (le_ _ _ rfl) (le_ _ _ rfl) (le_ _ _ rfl) (pc' := 13) rfl (fun T2 h2 v2 P2 Q2 => ?_)
  replace P2 := P2.more (k' := 0) (n' := 0) (le_ _ _ rfl) (le_ _ _ rfl)
  obtain ⟨w2, rfl, rfl, Q2⟩ := Q2
  exact r_int C P2 (ty := .int) (by simp) rfl (by decide +kernel) (le_ _ _ rfl) (le_ _ _ rfl) ⟨_, rfl, ⟨_, rfl, rfl, Q2⟩⟩
theorem k_io3_ef (m : MethodId) (t : Addr) (x0 x1 x2 : Int32) : entryFrame m #[.ref t, .int (65533 : Int32), .int (0 : Int32), .int (3 : Int32)] 4 = fr m 0 [.val (.ref t), .val (.int (65533 : Int32)), .val (.int (0 : Int32)), .val (.int (3 : Int32))] [] := by first | (simp [entryFrame, mkF, argsToLocals, Value.category]; done) | rfl
set_option maxRecDepth 65536 in
set_option maxHeartbeats 4000000 in
theorem k_io3 (l : Launch) {Z : State} {a0 : Array Value} {n0 : Nat} {h : Heap} {z : Int32} {fm : Value} (wd : Wd Z a0 z fm) (t : Addr) (x0 x1 x2 : Int32)  (O : Old Z n0 h) (B : Bys Z n0 h t (wide [x0, x1, x2])) (i0 : c16 x0 = x0) (i1 : c16 x1 = x1) (i2 : c16 x2 = x2) :
    Con l Z consts_1 n0 [] (⟨"java/lang/StringUTF16", "indexOf", "([BIII)I"⟩ : MethodName) jdk_52_method_40_code 4 (some .int) ({ frames := 4, cells := 0, slots := 0, locals := 58 } : Room) #[.ref t, .int (65533 : Int32), .int (0 : Int32), .int (3 : Int32)] h (Ret1 fun v h' => ∃ w, v = .int w ∧ h = h' ∧ ((¬ w < 0 ∧ Lost [x0, x1, x2]) ∨ (w < 0 ∧ ¬ Lost [x0, x1, x2]))) := by
  obtain ⟨hw, hEL, Sz, hz, SA, SH, SL, SF, hfm⟩ := id wd
  refine Con.intro (plainFor_of_name (by first | (simp [plainName, overriddenIn]; done) | decide +kernel)) O hEL ?_
  intro p e s m below meth c T C hs P
  have C : Ctx Z a0 consts_1 p s m meth c "java/lang/StringUTF16" "indexOf" jdk_52_method_40_code 4 (some .int) := C
  refine Run.cast (k_io3_ef m t x0 x1 x2) ?_
  refine blk C P [.iload_n 2, .iconst 0] (by decide +kernel) (pc' := 2) (L' := [.val (.ref t), .val (.int (65533 : Int32)), .val (.int (0 : Int32)), .val (.int (3 : Int32))]) (S' := [.int (0 : Int32), .int (0 : Int32)]) rfl ?_
  refine c_static C P (idx := 224) (y := (⟨"java/lang/Math", "max", "(II)I"⟩ : MethodName)) (ybytes := jdk_29_method_65_code) (ymax := 2) (yret := (some .int)) (yrm := ({ frames := 0, cells := 0, slots := 0, locals := 0 } : Room)) (by decide +kernel) (hw _ (List.mem_of_getElem? (i := 101) rfl)) (hw _ (List.mem_of_getElem? (i := 102) rfl)) (hw _ (List.mem_of_getElem? (i := 103) rfl)) (hw _ (List.mem_of_getElem? (i := 104) rfl)) (by decide) [.int (0 : Int32), .int (0 : Int32)] [] (k_mx l wd  P.old ) (le_ _ _ rfl) (W := 0) (le_ _ _ rfl) (by decide +kernel : parseMethodDescriptor "(II)I" = some ⟨[.int, .int], some .int⟩) rfl rfl rfl (le_ _ _ rfl) (le_ _ _ rfl) (le_ _ _ rfl) (pc' := 5) rfl (fun T1 h1 v1 P1 Q1 => ?_)
  replace P1 := P1.more (k' := 0) (n' := 0) (le_ _ _ rfl) (le_ _ _ rfl)
  obtain ⟨rfl, rfl⟩ := Q1
  refine blk C P1 [.istore_n 2, .iload_n 3, .aload_n 0] (by decide +kernel) (pc' := 8) (L' := [.val (.ref t), .val (.int (65533 : Int32)), .val (.int (0 : Int32)), .val (.int (3 : Int32))]) (S' := [.ref t, .int (3 : Int32)]) rfl ?_
  refine s_alenB C P1 6 (by decide +kernel) B rfl (pc' := 9) rfl ?_
  refine blk C P1 [.iconst 1, .ishr] (by decide +kernel) (pc' := 11) (L' := [.val (.ref t), .val (.int (65533 : Int32)), .val (.int (0 : Int32)), .val (.int (3 : Int32))]) (S' := [.int (3 : Int32), .int (3 : Int32)]) rfl ?_
  refine c_static C P1 (idx := 183) (y := (⟨"java/lang/Math", "min", "(II)I"⟩ : MethodName)) (ybytes := jdk_29_method_69_code) (ymax := 2) (yret := (some .int)) (yrm := ({ frames := 0, cells := 0, slots := 0, locals := 0 } : Room)) (by decide +kernel) (hw _ (List.mem_of_getElem? (i := 105) rfl)) (hw _ (List.mem_of_getElem? (i := 106) rfl)) (hw _ (List.mem_of_getElem? (i := 103) rfl)) (hw _ (List.mem_of_getElem? (i := 107) rfl)) (by decide) [.int (3 : Int32), .int (3 : Int32)] [] (k_mn3 l wd  P1.old ) (le_ _ _ rfl) (W := 0) (le_ _ _ rfl) (by decide +kernel : parseMethodDescriptor "(II)I" = some ⟨[.int, .int], some .int⟩) rfl rfl rfl (le_ _ _ rfl) (le_ _ _ rfl) (le_ _ _ rfl) (pc' := 14) rfl (fun T2 h2 v2 P2 Q2 => ?_)
  replace P2 := P2.more (k' := 0) (n' := 0) (le_ _ _ rfl) (le_ _ _ rfl)
  obtain ⟨rfl, rfl⟩ := Q2
  refine blk C P2 [.istore_n 3, .iload_n 2, .iload_n 3] (by decide +kernel) (pc' := 17) (L' := [.val (.ref t), .val (.int (65533 : Int32)), .val (.int (0 : Int32)), .val (.int (3 : Int32))]) (S' := [.int (3 : Int32), .int (0 : Int32)]) rfl ?_
  refine b_cmY C P2 (cd := .lt) (o := 5) (by decide +kernel) (pc' := 22) (by decide) (by decide : (0 : Int32) < (3 : Int32)) ?_
  refine blk C P2 [.iload_n 1] (by decide +kernel) (pc' := 23) (L' := [.val (.ref t), .val (.int (65533 : Int32)), .val (.int (0 : Int32)), .val (.int (3 : Int32))]) (S' := [.int (65533 : Int32)]) rfl ?_
  refine s_ldcI C P2 (idx := 227) (by decide +kernel) (hw _ (List.mem_of_getElem? (i := 108) rfl)) (pc' := 25) rfl ?_
  refine b_cmN C P2 (cd := .ge) (o := 11) (by decide +kernel) (pc' := 28) rfl (by decide : (65533 : Int32) < (65536 : Int32)) ?_
  refine blk C P2 [.aload_n 0, .iload_n 1, .iload_n 2, .iload_n 3] (by decide +kernel) (pc' := 32) (L' := [.val (.ref t), .val (.int (65533 : Int32)), .val (.int (0 : Int32)), .val (.int (3 : Int32))]) (S' := [.int (3 : Int32), .int (0 : Int32), .int (65533 : Int32), .ref t]) rfl ?_
  refine c_static C P2 (idx := 228) (y := (⟨"java/lang/StringUTF16", "indexOfChar", "([BIII)I"⟩ : MethodName)) (ybytes := jdk_52_method_47_code) (ymax := 4) (yret := (some .int)) (yrm := ({ frames := 3, cells := 0, slots := 0, locals := 43 } : Room)) (by decide +kernel) (hw _ (List.mem_of_getElem? (i := 109) rfl)) (hw _ (List.mem_of_getElem? (i := 110) rfl)) (hw _ (List.mem_of_getElem? (i := 71) rfl)) (hw _ (List.mem_of_getElem? (i := 111) rfl)) (by decide) [.ref t, .int (65533 : Int32), .int (0 : Int32), .int (3 : Int32)] [] (k_ic3 l wd t x0 x1 x2 P2.old B i0 i1 i2) (le_ _ _ rfl) (W := 0) (le_ _ _ rfl) (by decide +kernel : parseMethodDescriptor "([BIII)I" = some ⟨[(.array .byte), .int, .int, .int], some .int⟩) rfl rfl rfl (le_ _ _ rfl) (le_ _ _ rfl) (le_ _ _ rfl) (pc' := 35) rfl (fun T3 h3 v3 P3 Q3 => ?_)
  replace P3 := P3.more (k' := 0) (n' := 0) (le_ _ _ rfl) (le_ _ _ rfl)
  obtain ⟨w3, rfl, rfl, Q3⟩ := Q3
  exact r_int C P3 (ty := .int) (by simp) rfl (by decide +kernel) (le_ _ _ rfl) (le_ _ _ rfl) ⟨_, rfl, ⟨_, rfl, rfl, Q3⟩⟩
theorem k_sw3_ef (m : MethodId) (a : Addr) (x0 x1 x2 : Int32) : entryFrame m #[.ref a] 1 = fr m 0 [.val (.ref a)] [] := by first | (simp [entryFrame, mkF, argsToLocals, Value.category]; done) | rfl
set_option maxRecDepth 65536 in
set_option maxHeartbeats 4000000 in
theorem k_sw3 (l : Launch) {Z : State} {a0 : Array Value} {n0 : Nat} {h : Heap} {z : Int32} {fm : Value} (wd : Wd Z a0 z fm) (a : Addr) (x0 x1 x2 : Int32)  (O : Old Z n0 h) (S : Str16 Z n0 h a [x0, x1, x2]) :
    Con l Z consts_1 n0 [] (⟨"java/lang/String", "length", "()I"⟩ : MethodName) jdk_42_method_54_code 1 (some .int) ({ frames := 1, cells := 0, slots := 0, locals := 13 } : Room) #[.ref a] h (Ret1 fun v h' => v = .int 3 ∧ h = h') := by
  obtain ⟨hw, hEL, Sz, hz, SA, SH, SL, SF, hfm⟩ := id wd
  obtain ⟨S1, S2, t, S3, S4⟩ := id S
  refine Con.intro (plainFor_of_name (by first | (simp [plainName, overriddenIn]; done) | decide +kernel)) O hEL ?_
  intro p e s m below meth c T C hs P
  have C : Ctx Z a0 consts_1 p s m meth c "java/lang/String" "length" jdk_42_method_54_code 1 (some .int) := C
  refine Run.cast (k_sw3_ef m a x0 x1 x2) ?_
  refine blk C P [.aload_n 0] (by decide +kernel) (pc' := 1) (L' := [.val (.ref a)]) (S' := [.ref a]) rfl ?_
  refine s_getf C P (idx := 9) (by decide +kernel) (hw _ (List.mem_of_getElem? (i := 29) rfl)) S3 (pc' := 4) rfl (fun T1 P1 => ?_)
  refine s_alenB C P1 6 (by decide +kernel) S4 rfl (pc' := 5) rfl ?_
  refine blk C P1 [.aload_n 0] (by decide +kernel) (pc' := 6) (L' := [.val (.ref a)]) (S' := [.ref a, .int (6 : Int32)]) rfl ?_
  refine c_virtual C P1 (idx := 335) (y := (⟨"java/lang/String", "coder", "()B"⟩ : MethodName)) (K0 := "java/lang/String") (ybytes := jdk_42_method_152_code) (ymax := 1) (yret := (some .byte)) (yrm := ({ frames := 0, cells := 0, slots := 0, locals := 0 } : Room)) (by decide +kernel) (hw _ (List.mem_of_getElem? (i := 57) rfl)) (hw _ (List.mem_of_getElem? (i := 58) rfl)) (hw _ (List.mem_of_getElem? (i := 60) rfl)) (hw _ (List.mem_of_getElem? (i := 59) rfl)) (hw _ (List.mem_of_getElem? (i := 8) rfl)) (hw _ (List.mem_of_getElem? (i := 61) rfl)) (by decide) S.exa [] [.int (6 : Int32)] (k_co1 l wd a P1.old S2) (le_ _ _ rfl) (W := 1) (le_ _ _ rfl) (by decide +kernel : parseMethodDescriptor "()B" = some ⟨[], some .byte⟩) rfl rfl rfl (le_ _ _ rfl) (le_ _ _ rfl) (le_ _ _ rfl) (pc' := 9) rfl (fun T2 h2 v2 P2 Q2 => ?_)
  replace P2 := P2.more (k' := 0) (n' := 0) (le_ _ _ rfl) (le_ _ _ rfl)
  obtain ⟨rfl, rfl⟩ := Q2
  refine blk C P2 [.ishr] (by decide +kernel) (pc' := 10) (L' := [.val (.ref a)]) (S' := [.int (3 : Int32)]) rfl ?_
  exact r_int C P2 (ty := .int) (by simp) rfl (by decide +kernel) (le_ _ _ rfl) (le_ _ _ rfl) ⟨_, rfl, ⟨rfl, rfl⟩⟩
theorem k_iw3_ef (m : MethodId) (a : Addr) (x0 x1 x2 : Int32) : entryFrame m #[.ref a, .int (65533 : Int32), .int (0 : Int32)] 3 = fr m 0 [.val (.ref a), .val (.int (65533 : Int32)), .val (.int (0 : Int32))] [] := by first | (simp [entryFrame, mkF, argsToLocals, Value.category]; done) | rfl
set_option maxRecDepth 65536 in
set_option maxHeartbeats 4000000 in
theorem k_iw3 (l : Launch) {Z : State} {a0 : Array Value} {n0 : Nat} {h : Heap} {z : Int32} {fm : Value} (wd : Wd Z a0 z fm) (a : Addr) (x0 x1 x2 : Int32)  (O : Old Z n0 h) (S : Str16 Z n0 h a [x0, x1, x2]) (i0 : c16 x0 = x0) (i1 : c16 x1 = x1) (i2 : c16 x2 = x2) :
    Con l Z consts_1 n0 [] (⟨"java/lang/String", "indexOf", "(II)I"⟩ : MethodName) jdk_42_method_80_code 3 (some .int) ({ frames := 5, cells := 0, slots := 0, locals := 73 } : Room) #[.ref a, .int (65533 : Int32), .int (0 : Int32)] h (Ret1 fun v h' => ∃ w, v = .int w ∧ h = h' ∧ ((¬ w < 0 ∧ Lost [x0, x1, x2]) ∨ (w < 0 ∧ ¬ Lost [x0, x1, x2]))) := by
  obtain ⟨hw, hEL, Sz, hz, SA, SH, SL, SF, hfm⟩ := id wd
  obtain ⟨S1, S2, t, S3, S4⟩ := id S
  refine Con.intro (plainFor_of_name (by first | (simp [plainName, overriddenIn]; done) | decide +kernel)) O hEL ?_
  intro p e s m below meth c T C hs P
  have C : Ctx Z a0 consts_1 p s m meth c "java/lang/String" "indexOf" jdk_42_method_80_code 3 (some .int) := C
  refine Run.cast (k_iw3_ef m a x0 x1 x2) ?_
  refine blk C P [.aload_n 0] (by decide +kernel) (pc' := 1) (L' := [.val (.ref a), .val (.int (65533 : Int32)), .val (.int (0 : Int32))]) (S' := [.ref a]) rfl ?_
  refine c_virtual C P (idx := 492) (y := (⟨"java/lang/String", "isLatin1", "()Z"⟩ : MethodName)) (K0 := "java/lang/String") (ybytes := jdk_42_method_154_code) (ymax := 1) (yret := (some .boolean)) (yrm := ({ frames := 0, cells := 0, slots := 0, locals := 0 } : Room)) (by decide +kernel) (hw _ (List.mem_of_getElem? (i := 46) rfl)) (hw _ (List.mem_of_getElem? (i := 47) rfl)) (hw _ (List.mem_of_getElem? (i := 49) rfl)) (hw _ (List.mem_of_getElem? (i := 48) rfl)) (hw _ (List.mem_of_getElem? (i := 8) rfl)) (hw _ (List.mem_of_getElem? (i := 50) rfl)) (by decide) S.exa [] [] (k_il1 l wd a P.old S2) (le_ _ _ rfl) (W := 0) (le_ _ _ rfl) (by decide +kernel : parseMethodDescriptor "()Z" = some ⟨[], some .boolean⟩) rfl rfl rfl (le_ _ _ rfl) (le_ _ _ rfl) (le_ _ _ rfl) (pc' := 4) rfl (fun T1 h1 v1 P1 Q1 => ?_)
  replace P1 := P1.more (k' := 0) (n' := 0) (le_ _ _ rfl) (le_ _ _ rfl)
  obtain ⟨rfl, rfl⟩ := Q1
  refine b_ifY C P1 (cd := .eq) (o := 19) (by decide +kernel) (pc' := 23) (by decide) (by decide : (0 : Int32) = 0) ?_
  refine blk C P1 [.aload_n 0] (by decide +kernel) (pc' := 24) (L' := [.val (.ref a), .val (.int (65533 : Int32)), .val (.int (0 : Int32))]) (S' := [.ref a]) rfl ?_
  refine s_getf C P1 (idx := 9) (by decide +kernel) (hw _ (List.mem_of_getElem? (i := 29) rfl)) S3 (pc' := 27) rfl (fun T2 P2 => ?_)
  refine blk C P2 [.iload_n 1, .iload_n 2, .aload_n 0] (by decide +kernel) (pc' := 30) (L' := [.val (.ref a), .val (.int (65533 : Int32)), .val (.int (0 : Int32))]) (S' := [.ref a, .int (0 : Int32), .int (65533 : Int32), .ref t]) rfl ?_
  refine c_virtual C P2 (idx := 505) (y := (⟨"java/lang/String", "length", "()I"⟩ : MethodName)) (K0 := "java/lang/String") (ybytes := jdk_42_method_54_code) (ymax := 1) (yret := (some .int)) (yrm := ({ frames := 1, cells := 0, slots := 0, locals := 13 } : Room)) (by decide +kernel) (hw _ (List.mem_of_getElem? (i := 52) rfl)) (hw _ (List.mem_of_getElem? (i := 53) rfl)) (hw _ (List.mem_of_getElem? (i := 55) rfl)) (hw _ (List.mem_of_getElem? (i := 54) rfl)) (hw _ (List.mem_of_getElem? (i := 8) rfl)) (hw _ (List.mem_of_getElem? (i := 56) rfl)) (by decide) S.exa [] [.int (0 : Int32), .int (65533 : Int32), .ref t] (k_sw3 l wd a x0 x1 x2 P2.old S) (le_ _ _ rfl) (W := 3) (le_ _ _ rfl) (by decide +kernel : parseMethodDescriptor "()I" = some ⟨[], some .int⟩) rfl rfl rfl (le_ _ _ rfl) (le_ _ _ rfl) (le_ _ _ rfl) (pc' := 33) rfl (fun T3 h3 v3 P3 Q3 => ?_)
  replace P3 := P3.more (k' := 0) (n' := 0) (le_ _ _ rfl) (le_ _ _ rfl)
  obtain ⟨rfl, rfl⟩ := Q3
  refine c_static C P3 (idx := 640) (y := (⟨"java/lang/StringUTF16", "indexOf", "([BIII)I"⟩ : MethodName)) (ybytes := jdk_52_method_40_code) (ymax := 4) (yret := (some .int)) (yrm := ({ frames := 4, cells := 0, slots := 0, locals := 58 } : Room)) (by decide +kernel) (hw _ (List.mem_of_getElem? (i := 98) rfl)) (hw _ (List.mem_of_getElem? (i := 99) rfl)) (hw _ (List.mem_of_getElem? (i := 71) rfl)) (hw _ (List.mem_of_getElem? (i := 100) rfl)) (by decide) [.ref t, .int (65533 : Int32), .int (0 : Int32), .int (3 : Int32)] [] (k_io3 l wd t x0 x1 x2 P3.old S4 i0 i1 i2) (le_ _ _ rfl) (W := 0) (le_ _ _ rfl) (by decide +kernel : parseMethodDescriptor "([BIII)I" = some ⟨[(.array .byte), .int, .int, .int], some .int⟩) rfl rfl rfl (le_ _ _ rfl) (le_ _ _ rfl) (le_ _ _ rfl) (pc' := 36) rfl (fun T4 h4 v4 P4 Q4 => ?_)
  replace P4 := P4.more (k' := 0) (n' := 0) (le_ _ _ rfl) (le_ _ _ rfl)
  obtain ⟨w4, rfl, rfl, Q4⟩ := Q4
  exact r_int C P4 (ty := .int) (by simp) rfl (by decide +kernel) (le_ _ _ rfl) (le_ _ _ rfl) ⟨_, rfl, ⟨_, rfl, rfl, Q4⟩⟩
theorem k_jw3_ef (m : MethodId) (a : Addr) (x0 x1 x2 : Int32) : entryFrame m #[.ref a, .int (65533 : Int32)] 2 = fr m 0 [.val (.ref a), .val (.int (65533 : Int32))] [] := by first | (simp [entryFrame, mkF, argsToLocals, Value.category]; done) | rfl
set_option maxRecDepth 65536 in
set_option maxHeartbeats 4000000 in
theorem k_jw3 (l : Launch) {Z : State} {a0 : Array Value} {n0 : Nat} {h : Heap} {z : Int32} {fm : Value} (wd : Wd Z a0 z fm) (a : Addr) (x0 x1 x2 : Int32)  (O : Old Z n0 h) (S : Str16 Z n0 h a [x0, x1, x2]) (i0 : c16 x0 = x0) (i1 : c16 x1 = x1) (i2 : c16 x2 = x2) :
    Con l Z consts_1 n0 [] (⟨"java/lang/String", "indexOf", "(I)I"⟩ : MethodName) jdk_42_method_79_code 2 (some .int) ({ frames := 6, cells := 0, slots := 0, locals := 87 } : Room) #[.ref a, .int (65533 : Int32)] h (Ret1 fun v h' => ∃ w, v = .int w ∧ h = h' ∧ ((¬ w < 0 ∧ Lost [x0, x1, x2]) ∨ (w < 0 ∧ ¬ Lost [x0, x1, x2]))) := by
  obtain ⟨hw, hEL, Sz, hz, SA, SH, SL, SF, hfm⟩ := id wd
  obtain ⟨S1, S2, t, S3, S4⟩ := id S
  refine Con.intro (plainFor_of_name (by first | (simp [plainName, overriddenIn]; done) | decide +kernel)) O hEL ?_
  intro p e s m below meth c T C hs P
  have C : Ctx Z a0 consts_1 p s m meth c "java/lang/String" "indexOf" jdk_42_method_79_code 2 (some .int) := C
  refine Run.cast (k_jw3_ef m a x0 x1 x2) ?_
  refine blk C P [.aload_n 0, .iload_n 1, .iconst 0] (by decide +kernel) (pc' := 3) (L' := [.val (.ref a), .val (.int (65533 : Int32))]) (S' := [.int (0 : Int32), .int (65533 : Int32), .ref a]) rfl ?_
  refine c_virtual C P (idx := 633) (y := (⟨"java/lang/String", "indexOf", "(II)I"⟩ : MethodName)) (K0 := "java/lang/String") (ybytes := jdk_42_method_80_code) (ymax := 3) (yret := (some .int)) (yrm := ({ frames := 5, cells := 0, slots := 0, locals := 73 } : Room)) (by decide +kernel) (hw _ (List.mem_of_getElem? (i := 41) rfl)) (hw _ (List.mem_of_getElem? (i := 42) rfl)) (hw _ (List.mem_of_getElem? (i := 44) rfl)) (hw _ (List.mem_of_getElem? (i := 43) rfl)) (hw _ (List.mem_of_getElem? (i := 8) rfl)) (hw _ (List.mem_of_getElem? (i := 45) rfl)) (by decide) S.exa [.int (65533 : Int32), .int (0 : Int32)] [] (k_iw3 l wd a x0 x1 x2 P.old S i0 i1 i2) (le_ _ _ rfl) (W := 0) (le_ _ _ rfl) (by decide +kernel : parseMethodDescriptor "(II)I" = some ⟨[.int, .int], some .int⟩) rfl rfl rfl (le_ _ _ rfl) (le_ _ _ rfl) (le_ _ _ rfl) (pc' := 6) rfl (fun T1 h1 v1 P1 Q1 => ?_)
  replace P1 := P1.more (k' := 0) (n' := 0) (le_ _ _ rfl) (le_ _ _ rfl)
  obtain ⟨w1, rfl, rfl, Q1⟩ := Q1
  exact r_int C P1 (ty := .int) (by simp) rfl (by decide +kernel) (le_ _ _ rfl) (le_ _ _ rfl) ⟨_, rfl, ⟨_, rfl, rfl, Q1⟩⟩
theorem k_lw3_ef (m : MethodId) (a : Addr) (x0 x1 x2 : Int32) : entryFrame m #[.ref a] 1 = fr m 0 [.val (.ref a)] [] := by first | (simp [entryFrame, mkF, argsToLocals, Value.category]; done) | rfl
set_option maxRecDepth 65536 in
set_option maxHeartbeats 4000000 in
theorem k_lw3 (l : Launch) {Z : State} {a0 : Array Value} {n0 : Nat} {h : Heap} {z : Int32} {fm : Value} (wd : Wd Z a0 z fm) (a : Addr) (x0 x1 x2 : Int32)  (O : Old Z n0 h) (S : Str16 Z n0 h a [x0, x1, x2]) (i0 : c16 x0 = x0) (i1 : c16 x1 = x1) (i2 : c16 x2 = x2) :
    Con l Z consts_1 n0 [] (⟨"com/example/archive_packager/archivepackager/LocaleCharset", "lostBytes", "(Ljava/lang/String;)Z"⟩ : MethodName) prog_3_method_6_code 1 (some .boolean) ({ frames := 7, cells := 0, slots := 0, locals := 100 } : Room) #[.ref a] h (Ret1 fun v h' => h = h' ∧ ((v = .int 1 ∧ Lost [x0, x1, x2]) ∨ (v = .int 0 ∧ ¬ Lost [x0, x1, x2]))) := by
  obtain ⟨hw, hEL, Sz, hz, SA, SH, SL, SF, hfm⟩ := id wd
  obtain ⟨S1, S2, t, S3, S4⟩ := id S
  refine Con.intro (plainFor_of_name (by first | (simp [plainName, overriddenIn]; done) | decide +kernel)) O hEL ?_
  intro p e s m below meth c T C hs P
  have C : Ctx Z a0 consts_1 p s m meth c "com/example/archive_packager/archivepackager/LocaleCharset" "lostBytes" prog_3_method_6_code 1 (some .boolean) := C
  refine Run.cast (k_lw3_ef m a x0 x1 x2) ?_
  refine blk C P [.aload_n 0] (by decide +kernel) (pc' := 1) (L' := [.val (.ref a)]) (S' := [.ref a]) rfl ?_
  refine s_ldcI C P (idx := 43) (by decide +kernel) (hw _ (List.mem_of_getElem? (i := 35) rfl)) (pc' := 3) rfl ?_
  refine c_virtual C P (idx := 44) (y := (⟨"java/lang/String", "indexOf", "(I)I"⟩ : MethodName)) (K0 := "java/lang/String") (ybytes := jdk_42_method_79_code) (ymax := 2) (yret := (some .int)) (yrm := ({ frames := 6, cells := 0, slots := 0, locals := 87 } : Room)) (by decide +kernel) (hw _ (List.mem_of_getElem? (i := 36) rfl)) (hw _ (List.mem_of_getElem? (i := 37) rfl)) (hw _ (List.mem_of_getElem? (i := 39) rfl)) (hw _ (List.mem_of_getElem? (i := 38) rfl)) (hw _ (List.mem_of_getElem? (i := 8) rfl)) (hw _ (List.mem_of_getElem? (i := 40) rfl)) (by decide) S.exa [.int (65533 : Int32)] [] (k_jw3 l wd a x0 x1 x2 P.old S i0 i1 i2) (le_ _ _ rfl) (W := 0) (le_ _ _ rfl) (by decide +kernel : parseMethodDescriptor "(I)I" = some ⟨[.int], some .int⟩) rfl rfl rfl (le_ _ _ rfl) (le_ _ _ rfl) (le_ _ _ rfl) (pc' := 6) rfl (fun T1 h1 v1 P1 Q1 => ?_)
  replace P1 := P1.more (k' := 0) (n' := 0) (le_ _ _ rfl) (le_ _ _ rfl)
  obtain ⟨w1, rfl, rfl, Q1⟩ := Q1
  rcases Q1 with ⟨q1, Q1⟩ | ⟨q1, Q1⟩
  · skip
    refine b_ifN C P1 (cd := .lt) (o := 7) (by decide +kernel) (pc' := 9) rfl q1 ?_
    refine blk C P1 [.iconst 1] (by decide +kernel) (pc' := 10) (L' := [.val (.ref a)]) (S' := [.int (1 : Int32)]) rfl ?_
    refine b_goto C P1 (o := 4) (by decide +kernel) (pc' := 14) (by decide) ?_
    exact r_int C P1 (ty := .boolean) (by simp) rfl (by decide +kernel) (le_ _ _ rfl) (le_ _ _ rfl) ⟨_, rfl, ⟨rfl, Or.inl ⟨rfl, Q1⟩⟩⟩
  · skip
    refine b_ifY C P1 (cd := .lt) (o := 7) (by decide +kernel) (pc' := 13) (by decide) q1 ?_
    refine blk C P1 [.iconst 0] (by decide +kernel) (pc' := 14) (L' := [.val (.ref a)]) (S' := [.int (0 : Int32)]) rfl ?_
    exact r_int C P1 (ty := .boolean) (by simp) rfl (by decide +kernel) (le_ _ _ rfl) (le_ _ _ rfl) ⟨_, rfl, ⟨rfl, Or.inr ⟨rfl, Q1⟩⟩⟩
theorem k_nl4_ef (m : MethodId)  : entryFrame m #[.int (4 : Int32)] 1 = fr m 0 [.val (.int (4 : Int32))] [] := by first | (simp [entryFrame, mkF, argsToLocals, Value.category]; done) | rfl
set_option maxRecDepth 65536 in
set_option maxHeartbeats 4000000 in
theorem k_nl4 (l : Launch) {Z : State} {a0 : Array Value} {n0 : Nat} {h : Heap} {z : Int32} {fm : Value} (wd : Wd Z a0 z fm)   (O : Old Z n0 h)  :
    Con l Z consts_1 n0 [] (⟨"java/lang/StringUTF16", "newBytesLength", "(I)I"⟩ : MethodName) jdk_52_method_3_code 1 (some .int) ({ frames := 0, cells := 0, slots := 0, locals := 0 } : Room) #[.int (4 : Int32)] h (Ret1 fun v h' => v = .int 8 ∧ h = h') := by
  obtain ⟨hw, hEL, Sz, hz, SA, SH, SL, SF, hfm⟩ := id wd
  refine Con.intro (plainFor_of_name (by first | (simp [plainName, overriddenIn]; done) | decide +kernel)) O hEL ?_
  intro p e s m below meth c T C hs P
  have C : Ctx Z a0 consts_1 p s m meth c "java/lang/StringUTF16" "newBytesLength" jdk_52_method_3_code 1 (some .int) := C
  refine Run.cast (k_nl4_ef m) ?_
  refine blk C P [.iload_n 0] (by decide +kernel) (pc' := 1) (L' := [.val (.int (4 : Int32))]) (S' := [.int (4 : Int32)]) rfl ?_
  refine b_ifY C P (cd := .ge) (o := 11) (by decide +kernel) (pc' := 12) (by decide) (by decide : ¬ (4 : Int32) < 0) ?_
  refine blk C P [.iload_n 0] (by decide +kernel) (pc' := 13) (L' := [.val (.int (4 : Int32))]) (S' := [.int (4 : Int32)]) rfl ?_
  refine s_ldcI C P (idx := 20) (by decide +kernel) (hw _ (List.mem_of_getElem? (i := 85) rfl)) (pc' := 15) rfl ?_
  refine b_cmY C P (cd := .lt) (o := 40) (by decide +kernel) (pc' := 55) (by decide) (by decide : (4 : Int32) < (1073741823 : Int32)) ?_
  refine blk C P [.iload_n 0, .iconst 1, .ishl] (by decide +kernel) (pc' := 58) (L' := [.val (.int (4 : Int32))]) (S' := [.int (8 : Int32)]) rfl ?_
  exact r_int C P (ty := .int) (by simp) rfl (by decide +kernel) (le_ _ _ rfl) (le_ _ _ rfl) ⟨_, rfl, ⟨rfl, rfl⟩⟩
theorem k_nf4_ef (m : MethodId)  : entryFrame m #[.int (4 : Int32)] 1 = fr m 0 [.val (.int (4 : Int32))] [] := by first | (simp [entryFrame, mkF, argsToLocals, Value.category]; done) | rfl
set_option maxRecDepth 65536 in
set_option maxHeartbeats 4000000 in
theorem k_nf4 (l : Launch) {Z : State} {a0 : Array Value} {n0 : Nat} {h : Heap} {z : Int32} {fm : Value} (wd : Wd Z a0 z fm)   (O : Old Z n0 h)  :
    Con l Z consts_1 n0 [] (⟨"java/lang/StringUTF16", "newBytesFor", "(I)[B"⟩ : MethodName) jdk_52_method_2_code 1 (some (.array .byte)) ({ frames := 1, cells := 1, slots := 8, locals := 12 } : Room) #[.int (4 : Int32)] h (Ret1 fun v h' => v = .ref h.size ∧ Ext h h' ∧ Bys Z n0 h' h.size [0, 0, 0, 0, 0, 0, 0, 0]) := by
  obtain ⟨hw, hEL, Sz, hz, SA, SH, SL, SF, hfm⟩ := id wd
  refine Con.intro (plainFor_of_name (by first | (simp [plainName, overriddenIn]; done) | decide +kernel)) O hEL ?_
  intro p e s m below meth c T C hs P
  have C : Ctx Z a0 consts_1 p s m meth c "java/lang/StringUTF16" "newBytesFor" jdk_52_method_2_code 1 (some (.array .byte)) := C
  refine Run.cast (k_nf4_ef m) ?_
  refine blk C P [.iload_n 0] (by decide +kernel) (pc' := 1) (L' := [.val (.int (4 : Int32))]) (S' := [.int (4 : Int32)]) rfl ?_
  refine c_static C P (idx := 11) (y := (⟨"java/lang/StringUTF16", "newBytesLength", "(I)I"⟩ : MethodName)) (ybytes := jdk_52_method_3_code) (ymax := 1) (yret := (some .int)) (yrm := ({ frames := 0, cells := 0, slots := 0, locals := 0 } : Room)) (by decide +kernel) (hw _ (List.mem_of_getElem? (i := 82) rfl)) (hw _ (List.mem_of_getElem? (i := 83) rfl)) (hw _ (List.mem_of_getElem? (i := 71) rfl)) (hw _ (List.mem_of_getElem? (i := 84) rfl)) (by decide) [.int (4 : Int32)] [] (k_nl4 l wd  P.old ) (le_ _ _ rfl) (W := 0) (le_ _ _ rfl) (by decide +kernel : parseMethodDescriptor "(I)I" = some ⟨[.int], some .int⟩) rfl rfl rfl (le_ _ _ rfl) (le_ _ _ rfl) (le_ _ _ rfl) (pc' := 4) rfl (fun T1 h1 v1 P1 Q1 => ?_)
  replace P1 := P1.more (k' := 0) (n' := 0) (le_ _ _ rfl) (le_ _ _ rfl)
  obtain ⟨rfl, rfl⟩ := Q1
  refine s_newB C P1 8 (by decide +kernel) (hw _ (List.mem_of_getElem? (i := 24) rfl)) rfl (by decide) (le_ _ _ rfl) (le_ _ _ rfl) (pc' := 6) rfl (fun T2 h2 P2 E2 V2 => ?_)
  replace P2 := P2.more (k' := 1) (n' := 8) (le_ _ _ rfl) (le_ _ _ rfl)
  exact r_ref C P2 (w := .ref h.size) rfl rfl (by decide +kernel) (le_ _ _ rfl) (le_ _ _ rfl) ⟨_, rfl, ⟨rfl, E2, V2⟩⟩
theorem k_tb4_ef (m : MethodId) (b : Addr) (x0 x1 x2 x3 : Int32) : entryFrame m #[.ref b, .int (0 : Int32), .int (4 : Int32)] 5 = fr m 0 [.val (.ref b), .val (.int (0 : Int32)), .val (.int (4 : Int32)), .unset, .unset] [] := by first | (simp [entryFrame, mkF, argsToLocals, Value.category]; done) | rfl
set_option maxRecDepth 65536 in
set_option maxHeartbeats 4000000 in
theorem k_tb4 (l : Launch) {Z : State} {a0 : Array Value} {n0 : Nat} {h : Heap} {z : Int32} {fm : Value} (wd : Wd Z a0 z fm) (b : Addr) (x0 x1 x2 x3 : Int32)  (O : Old Z n0 h) (V : Chs Z n0 h b [x0, x1, x2, x3]) :
    Con l Z consts_1 n0 [] (⟨"java/lang/StringUTF16", "toBytes", "([CII)[B"⟩ : MethodName) jdk_52_method_14_code 5 (some (.array .byte)) ({ frames := 2, cells := 1, slots := 8, locals := 24 } : Room) #[.ref b, .int (0 : Int32), .int (4 : Int32)] h (Ret1 fun v h' => v = .ref h.size ∧ Ext h h' ∧ Bys Z n0 h' h.size (wide [x0, x1, x2, x3])) := by
  obtain ⟨hw, hEL, Sz, hz, SA, SH, SL, SF, hfm⟩ := id wd
  refine Con.intro (plainFor_of_name (by first | (simp [plainName, overriddenIn]; done) | decide +kernel)) O hEL ?_
  intro p e s m below meth c T C hs P
  have C : Ctx Z a0 consts_1 p s m meth c "java/lang/StringUTF16" "toBytes" jdk_52_method_14_code 5 (some (.array .byte)) := C
  refine Run.cast (k_tb4_ef m b x0 x1 x2 x3) ?_
  refine blk C P [.iload_n 2] (by decide +kernel) (pc' := 1) (L' := [.val (.ref b), .val (.int (0 : Int32)), .val (.int (4 : Int32)), .unset, .unset]) (S' := [.int (4 : Int32)]) rfl ?_
  refine c_static C P (idx := 107) (y := (⟨"java/lang/StringUTF16", "newBytesFor", "(I)[B"⟩ : MethodName)) (ybytes := jdk_52_method_2_code) (ymax := 1) (yret := (some (.array .byte))) (yrm := ({ frames := 1, cells := 1, slots := 8, locals := 12 } : Room)) (by decide +kernel) (hw _ (List.mem_of_getElem? (i := 79) rfl)) (hw _ (List.mem_of_getElem? (i := 80) rfl)) (hw _ (List.mem_of_getElem? (i := 71) rfl)) (hw _ (List.mem_of_getElem? (i := 81) rfl)) (by decide) [.int (4 : Int32)] [] (k_nf4 l wd  P.old ) (le_ _ _ rfl) (W := 0) (le_ _ _ rfl) (by decide +kernel : parseMethodDescriptor "(I)[B" = some ⟨[.int], some (.array .byte)⟩) rfl rfl rfl (le_ _ _ rfl) (le_ _ _ rfl) (le_ _ _ rfl) (pc' := 4) rfl (fun T1 h1 v1 P1 Q1 => ?_)
  replace P1 := P1.more (k' := 1) (n' := 8) (le_ _ _ rfl) (le_ _ _ rfl)
  obtain ⟨rfl, E1, V1⟩ := Q1
  refine blk C P1 [.astore_n 3, .iconst 0, .istore 4, .iload 4, .iload_n 2] (by decide +kernel) (pc' := 11) (L' := [.val (.ref b), .val (.int (0 : Int32)), .val (.int (4 : Int32)), .val (.ref h.size), .val (.int (0 : Int32))]) (S' := [.int (4 : Int32), .int (0 : Int32)]) rfl ?_
  refine b_cmN C P1 (cd := .ge) (o := 21) (by decide +kernel) (pc' := 14) rfl (by decide : (0 : Int32) < (4 : Int32)) ?_
  refine blk C P1 [.aload_n 3, .iload 4, .aload_n 0, .iload_n 1] (by decide +kernel) (pc' := 19) (L' := [.val (.ref b), .val (.int (0 : Int32)), .val (.int (4 : Int32)), .val (.ref h.size), .val (.int (0 : Int32))]) (S' := [.int (0 : Int32), .ref b, .int (0 : Int32), .ref h.size]) rfl ?_
  refine s_ldC C P1 0 (x := x0) (by decide +kernel) (V.ext E1) rfl rfl (pc' := 20) rfl ?_
  refine c_static0 C P1 (idx := 111) (y := (⟨"java/lang/StringUTF16", "putChar", "([BII)V"⟩ : MethodName)) (ybytes := jdk_52_method_4_code) (ymax := 3) (yrm := ({ frames := 0, cells := 0, slots := 0, locals := 0 } : Room)) (by decide +kernel) (hw _ (List.mem_of_getElem? (i := 86) rfl)) (hw _ (List.mem_of_getElem? (i := 87) rfl)) (hw _ (List.mem_of_getElem? (i := 71) rfl)) (hw _ (List.mem_of_getElem? (i := 88) rfl)) (by decide) [.ref h.size, .int (0 : Int32), .int x0] [] (k_pc0 l wd (h.size) x0 P1.old V1 (Nat.lt_of_lt_of_le (Nat.lt_succ_self _) (le_ _ _ rfl))) (le_ _ _ rfl) (W := 0) (le_ _ _ rfl) (by decide +kernel : parseMethodDescriptor "([BII)V" = some ⟨[(.array .byte), .int, .int], none⟩) rfl rfl rfl (le_ _ _ rfl) (le_ _ _ rfl) (le_ _ _ rfl) (pc' := 23) rfl (fun T2 h2 P2 Q2 => ?_)
  replace P2 := P2.more (k' := 1) (n' := 8) (le_ _ _ rfl) (le_ _ _ rfl)
  obtain ⟨K2, V2⟩ := Q2
  replace V2 : Bys Z n0 h2 (h.size) [(wlo x0), (whi x0), (0 : Int32), (0 : Int32), (0 : Int32), (0 : Int32), (0 : Int32), (0 : Int32)] := V2
  refine blk C P2 [.iinc 1 1, .iinc 4 1] (by decide +kernel) (pc' := 29) (L' := [.val (.ref b), .val (.int (1 : Int32)), .val (.int (4 : Int32)), .val (.ref h.size), .val (.int (1 : Int32))]) (S' := []) rfl ?_
  refine b_goto C P2 (o := -21) (by decide +kernel) (pc' := 8) (by decide) ?_
  refine blk C P2 [.iload 4, .iload_n 2] (by decide +kernel) (pc' := 11) (L' := [.val (.ref b), .val (.int (1 : Int32)), .val (.int (4 : Int32)), .val (.ref h.size), .val (.int (1 : Int32))]) (S' := [.int (4 : Int32), .int (1 : Int32)]) rfl ?_
  refine b_cmN C P2 (cd := .ge) (o := 21) (by decide +kernel) (pc' := 14) rfl (by decide : (1 : Int32) < (4 : Int32)) ?_
  refine blk C P2 [.aload_n 3, .iload 4, .aload_n 0, .iload_n 1] (by decide +kernel) (pc' := 19) (L' := [.val (.ref b), .val (.int (1 : Int32)), .val (.int (4 : Int32)), .val (.ref h.size), .val (.int (1 : Int32))]) (S' := [.int (1 : Int32), .ref b, .int (1 : Int32), .ref h.size]) rfl ?_
  refine s_ldC C P2 1 (x := x1) (by decide +kernel) (V.ext (exK E1 K2 (Nat.le_refl _))) rfl rfl (pc' := 20) rfl ?_
  refine c_static0 C P2 (idx := 111) (y := (⟨"java/lang/StringUTF16", "putChar", "([BII)V"⟩ : MethodName)) (ybytes := jdk_52_method_4_code) (ymax := 3) (yrm := ({ frames := 0, cells := 0, slots := 0, locals := 0 } : Room)) (by decide +kernel) (hw _ (List.mem_of_getElem? (i := 86) rfl)) (hw _ (List.mem_of_getElem? (i := 87) rfl)) (hw _ (List.mem_of_getElem? (i := 71) rfl)) (hw _ (List.mem_of_getElem? (i := 88) rfl)) (by decide) [.ref h.size, .int (1 : Int32), .int x1] [] (k_pc1 l wd (h.size) x1 P2.old V2 (Nat.lt_of_lt_of_le (Nat.lt_succ_self _) (le_ _ _ rfl))) (le_ _ _ rfl) (W := 0) (le_ _ _ rfl) (by decide +kernel : parseMethodDescriptor "([BII)V" = some ⟨[(.array .byte), .int, .int], none⟩) rfl rfl rfl (le_ _ _ rfl) (le_ _ _ rfl) (le_ _ _ rfl) (pc' := 23) rfl (fun T3 h3 P3 Q3 => ?_)
  replace P3 := P3.more (k' := 1) (n' := 8) (le_ _ _ rfl) (le_ _ _ rfl)
  obtain ⟨K3, V3⟩ := Q3
  replace V3 : Bys Z n0 h3 (h.size) [(wlo x0), (whi x0), (wlo x1), (whi x1), (0 : Int32), (0 : Int32), (0 : Int32), (0 : Int32)] := V3
  refine blk C P3 [.iinc 1 1, .iinc 4 1] (by decide +kernel) (pc' := 29) (L' := [.val (.ref b), .val (.int (2 : Int32)), .val (.int (4 : Int32)), .val (.ref h.size), .val (.int (2 : Int32))]) (S' := []) rfl ?_
  refine b_goto C P3 (o := -21) (by decide +kernel) (pc' := 8) (by decide) ?_
  refine blk C P3 [.iload 4, .iload_n 2] (by decide +kernel) (pc' := 11) (L' := [.val (.ref b), .val (.int (2 : Int32)), .val (.int (4 : Int32)), .val (.ref h.size), .val (.int (2 : Int32))]) (S' := [.int (4 : Int32), .int (2 : Int32)]) rfl ?_
  refine b_cmN C P3 (cd := .ge) (o := 21) (by decide +kernel) (pc' := 14) rfl (by decide : (2 : Int32) < (4 : Int32)) ?_
  refine blk C P3 [.aload_n 3, .iload 4, .aload_n 0, .iload_n 1] (by decide +kernel) (pc' := 19) (L' := [.val (.ref b), .val (.int (2 : Int32)), .val (.int (4 : Int32)), .val (.ref h.size), .val (.int (2 : Int32))]) (S' := [.int (2 : Int32), .ref b, .int (2 : Int32), .ref h.size]) rfl ?_
  refine s_ldC C P3 2 (x := x2) (by decide +kernel) (V.ext (exK (exK E1 K2 (Nat.le_refl _)) K3 (Nat.le_refl _))) rfl rfl (pc' := 20) rfl ?_
  refine c_static0 C P3 (idx := 111) (y := (⟨"java/lang/StringUTF16", "putChar", "([BII)V"⟩ : MethodName)) (ybytes := jdk_52_method_4_code) (ymax := 3) (yrm := ({ frames := 0, cells := 0, slots := 0, locals := 0 } : Room)) (by decide +kernel) (hw _ (List.mem_of_getElem? (i := 86) rfl)) (hw _ (List.mem_of_getElem? (i := 87) rfl)) (hw _ (List.mem_of_getElem? (i := 71) rfl)) (hw _ (List.mem_of_getElem? (i := 88) rfl)) (by decide) [.ref h.size, .int (2 : Int32), .int x2] [] (k_pc2 l wd (h.size) x2 P3.old V3 (Nat.lt_of_lt_of_le (Nat.lt_succ_self _) (le_ _ _ rfl))) (le_ _ _ rfl) (W := 0) (le_ _ _ rfl) (by decide +kernel : parseMethodDescriptor "([BII)V" = some ⟨[(.array .byte), .int, .int], none⟩) rfl rfl rfl (le_ _ _ rfl) (le_ _ _ rfl) (le_ _ _ rfl) (pc' := 23) rfl (fun T4 h4 P4 Q4 => ?_)
  replace P4 := P4.more (k' := 1) (n' := 8) (le_ _ _ rfl) (le_ _ _ rfl)
  obtain ⟨K4, V4⟩ := Q4
  replace V4 : Bys Z n0 h4 (h.size) [(wlo x0), (whi x0), (wlo x1), (whi x1), (wlo x2), (whi x2), (0 : Int32), (0 : Int32)] := V4
  refine blk C P4 [.iinc 1 1, .iinc 4 1] (by decide +kernel) (pc' := 29) (L' := [.val (.ref b), .val (.int (3 : Int32)), .val (.int (4 : Int32)), .val (.ref h.size), .val (.int (3 : Int32))]) (S' := []) rfl ?_
  refine b_goto C P4 (o := -21) (by decide +kernel) (pc' := 8) (by decide) ?_
  refine blk C P4 [.iload 4, .iload_n 2] (by decide +kernel) (pc' := 11) (L' := [.val (.ref b), .val (.int (3 : Int32)), .val (.int (4 : Int32)), .val (.ref h.size), .val (.int (3 : Int32))]) (S' := [.int (4 : Int32), .int (3 : Int32)]) rfl ?_
  refine b_cmN C P4 (cd := .ge) (o := 21) (by decide +kernel) (pc' := 14) rfl (by decide : (3 : Int32) < (4 : Int32)) ?_
  refine blk C P4 [.aload_n 3, .iload 4, .aload_n 0, .iload_n 1] (by decide +kernel) (pc' := 19) (L' := [.val (.ref b), .val (.int (3 : Int32)), .val (.int (4 : Int32)), .val (.ref h.size), .val (.int (3 : Int32))]) (S' := [.int (3 : Int32), .ref b, .int (3 : Int32), .ref h.size]) rfl ?_
  refine s_ldC C P4 3 (x := x3) (by decide +kernel) (V.ext (exK (exK (exK E1 K2 (Nat.le_refl _)) K3 (Nat.le_refl _)) K4 (Nat.le_refl _))) rfl rfl (pc' := 20) rfl ?_
  refine c_static0 C P4 (idx := 111) (y := (⟨"java/lang/StringUTF16", "putChar", "([BII)V"⟩ : MethodName)) (ybytes := jdk_52_method_4_code) (ymax := 3) (yrm := ({ frames := 0, cells := 0, slots := 0, locals := 0 } : Room)) (by decide +kernel) (hw _ (List.mem_of_getElem? (i := 86) rfl)) (hw _ (List.mem_of_getElem? (i := 87) rfl)) (hw _ (List.mem_of_getElem? (i := 71) rfl)) (hw _ (List.mem_of_getElem? (i := 88) rfl)) (by decide) [.ref h.size, .int (3 : Int32), .int x3] [] (k_pc3 l wd (h.size) x3 P4.old V4 (Nat.lt_of_lt_of_le (Nat.lt_succ_self _) (le_ _ _ rfl))) (le_ _ _ rfl) (W := 0) (le_ _ _ rfl) (by decide +kernel : parseMethodDescriptor "([BII)V" = some ⟨[(.array .byte), .int, .int], none⟩) rfl rfl rfl (le_ _ _ rfl) (le_ _ _ rfl) (le_ _ _ rfl) (pc' := 23) rfl (fun T5 h5 P5 Q5 => ?_)
  replace P5 := P5.more (k' := 1) (n' := 8) (le_ _ _ rfl) (le_ _ _ rfl)
  obtain ⟨K5, V5⟩ := Q5
  replace V5 : Bys Z n0 h5 (h.size) [(wlo x0), (whi x0), (wlo x1), (whi x1), (wlo x2), (whi x2), (wlo x3), (whi x3)] := V5
  refine blk C P5 [.iinc 1 1, .iinc 4 1] (by decide +kernel) (pc' := 29) (L' := [.val (.ref b), .val (.int (4 : Int32)), .val (.int (4 : Int32)), .val (.ref h.size), .val (.int (4 : Int32))]) (S' := []) rfl ?_
  refine b_goto C P5 (o := -21) (by decide +kernel) (pc' := 8) (by decide) ?_
  refine blk C P5 [.iload 4, .iload_n 2] (by decide +kernel) (pc' := 11) (L' := [.val (.ref b), .val (.int (4 : Int32)), .val (.int (4 : Int32)), .val (.ref h.size), .val (.int (4 : Int32))]) (S' := [.int (4 : Int32), .int (4 : Int32)]) rfl ?_
  refine b_cmY C P5 (cd := .ge) (o := 21) (by decide +kernel) (pc' := 32) (by decide) (by decide : ¬ (4 : Int32) < (4 : Int32)) ?_
  refine blk C P5 [.aload_n 3] (by decide +kernel) (pc' := 33) (L' := [.val (.ref b), .val (.int (4 : Int32)), .val (.int (4 : Int32)), .val (.ref h.size), .val (.int (4 : Int32))]) (S' := [.ref h.size]) rfl ?_
  exact r_ref C P5 (w := .ref h.size) rfl rfl (by decide +kernel) (le_ _ _ rfl) (le_ _ _ rfl) ⟨_, rfl, ⟨rfl, (exK (exK (exK (exK E1 K2 (Nat.le_refl _)) K3 (Nat.le_refl _)) K4 (Nat.le_refl _)) K5 (Nat.le_refl _)), V5⟩⟩
theorem k_c5_4_ef (m : MethodId) (b d : Addr) (x0 x1 x2 x3 : Int32) : entryFrame m #[.ref b, .int (0 : Int32), .ref d, .int (0 : Int32), .int (4 : Int32)] 7 = fr m 0 [.val (.ref b), .val (.int (0 : Int32)), .val (.ref d), .val (.int (0 : Int32)), .val (.int (4 : Int32)), .unset, .unset] [] := by first | (simp [entryFrame, mkF, argsToLocals, Value.category]; done) | rfl
set_option maxRecDepth 65536 in
set_option maxHeartbeats 4000000 in
theorem k_c5_4 (l : Launch) {Z : State} {a0 : Array Value} {n0 : Nat} {h : Heap} {z : Int32} {fm : Value} (wd : Wd Z a0 z fm) (b d : Addr) (x0 x1 x2 x3 : Int32)  (O : Old Z n0 h) (V : Chs Z n0 h b [x0, x1, x2, x3]) (D : Bys Z n0 h d [0, 0, 0, 0]) (any : (255 : Int32) < x0 ∨ (255 : Int32) < x1 ∨ (255 : Int32) < x2 ∨ (255 : Int32) < x3) :
    Con l Z consts_1 n0 [] (⟨"java/lang/StringUTF16", "compress", "([CI[BII)I"⟩ : MethodName) jdk_52_method_21_code 7 (some .int) ({ frames := 0, cells := 0, slots := 0, locals := 0 } : Room) #[.ref b, .int (0 : Int32), .ref d, .int (0 : Int32), .int (4 : Int32)] h (Ret1 fun v h' => Keep h h' [d] ∧ ((v = .int 0 ∧ (255 : Int32) < x0) ∨ (v = .int 1 ∧ (255 : Int32) < x1) ∨ (v = .int 2 ∧ (255 : Int32) < x2) ∨ (v = .int 3 ∧ (255 : Int32) < x3))) := by
  obtain ⟨hw, hEL, Sz, hz, SA, SH, SL, SF, hfm⟩ := id wd
  refine Con.intro (plainFor_of_name (by first | (simp [plainName, overriddenIn]; done) | decide +kernel)) O hEL ?_
  intro p e s m below meth c T C hs P
  have C : Ctx Z a0 consts_1 p s m meth c "java/lang/StringUTF16" "compress" jdk_52_method_21_code 7 (some .int) := C
  have hE : ∀ p ∈ consts_1, (Jvm.Cond.stringLink p.1 p.2 "").before a0 Z = true := fun p hp => by cases List.mem_singleton.mp hp; exact (hw _ (List.mem_of_getElem? (i := 23) rfl))
  refine Run.cast (k_c5_4_ef m b d x0 x1 x2 x3) ?_
  refine blk C P [.iconst 0, .istore 5, .iload 5, .iload 4] (by decide +kernel) (pc' := 7) (L' := [.val (.ref b), .val (.int (0 : Int32)), .val (.ref d), .val (.int (0 : Int32)), .val (.int (4 : Int32)), .val (.int (0 : Int32)), .unset]) (S' := [.int (4 : Int32), .int (0 : Int32)]) rfl ?_
  refine b_cmN C P (cd := .ge) (o := 37) (by decide +kernel) (pc' := 10) rfl (by decide : (0 : Int32) < (4 : Int32)) ?_
  refine blk C P [.aload_n 0, .iload_n 1] (by decide +kernel) (pc' := 12) (L' := [.val (.ref b), .val (.int (0 : Int32)), .val (.ref d), .val (.int (0 : Int32)), .val (.int (4 : Int32)), .val (.int (0 : Int32)), .unset]) (S' := [.int (0 : Int32), .ref b]) rfl ?_
  refine s_ldC C P 0 (x := x0) (by decide +kernel) V rfl rfl (pc' := 13) rfl ?_
  refine blk C P [.istore 6, .iload 6, .sipush 255] (by decide +kernel) (pc' := 20) (L' := [.val (.ref b), .val (.int (0 : Int32)), .val (.ref d), .val (.int (0 : Int32)), .val (.int (4 : Int32)), .val (.int (0 : Int32)), .val (.int x0)]) (S' := [.int (255 : Int32), .int x0]) rfl ?_
  refine b_cm C P (cd := .le) (o := 6) (by decide +kernel) (pc' := 26) (by decide) (pn := 23) rfl (fun (q1 : ¬ (255 : Int32) < x0) => ?_) (fun (q1 : (255 : Int32) < x0) => ?_)
  · skip
    refine blk C P [.aload_n 2, .iload_n 3, .iload 6, .i2b] (by decide +kernel) (pc' := 31) (L' := [.val (.ref b), .val (.int (0 : Int32)), .val (.ref d), .val (.int (0 : Int32)), .val (.int (4 : Int32)), .val (.int (0 : Int32)), .val (.int x0)]) (S' := [.int (x0.toInt8.toInt32), .int (0 : Int32), .ref d]) rfl ?_
    refine s_stB C P hE 0 (by decide +kernel) D rfl (Nat.lt_of_lt_of_le (Nat.lt_succ_self _) (le_ _ _ rfl)) (b8_idem _) (pc' := 32) rfl (fun T2 h2 P2 K2 V2 => ?_)
    have V3 := Chs.keep V K2 (Chs.neB V D)
    replace V2 : Bys Z n0 h2 (d) [(x0.toInt8.toInt32), (0 : Int32), (0 : Int32), (0 : Int32)] := V2
    refine blk C P2 [.iinc 1 1, .iinc 3 1, .iinc 5 1] (by decide +kernel) (pc' := 41) (L' := [.val (.ref b), .val (.int (1 : Int32)), .val (.ref d), .val (.int (1 : Int32)), .val (.int (4 : Int32)), .val (.int (1 : Int32)), .val (.int x0)]) (S' := []) rfl ?_
    refine b_goto C P2 (o := -38) (by decide +kernel) (pc' := 3) (by decide) ?_
    refine blk C P2 [.iload 5, .iload 4] (by decide +kernel) (pc' := 7) (L' := [.val (.ref b), .val (.int (1 : Int32)), .val (.ref d), .val (.int (1 : Int32)), .val (.int (4 : Int32)), .val (.int (1 : Int32)), .val (.int x0)]) (S' := [.int (4 : Int32), .int (1 : Int32)]) rfl ?_
    refine b_cmN C P2 (cd := .ge) (o := 37) (by decide +kernel) (pc' := 10) rfl (by decide : (1 : Int32) < (4 : Int32)) ?_
    refine blk C P2 [.aload_n 0, .iload_n 1] (by decide +kernel) (pc' := 12) (L' := [.val (.ref b), .val (.int (1 : Int32)), .val (.ref d), .val (.int (1 : Int32)), .val (.int (4 : Int32)), .val (.int (1 : Int32)), .val (.int x0)]) (S' := [.int (1 : Int32), .ref b]) rfl ?_
    refine s_ldC C P2 1 (x := x1) (by decide +kernel) V3 rfl rfl (pc' := 13) rfl ?_
    refine blk C P2 [.istore 6, .iload 6, .sipush 255] (by decide +kernel) (pc' := 20) (L' := [.val (.ref b), .val (.int (1 : Int32)), .val (.ref d), .val (.int (1 : Int32)), .val (.int (4 : Int32)), .val (.int (1 : Int32)), .val (.int x1)]) (S' := [.int (255 : Int32), .int x1]) rfl ?_
    refine b_cm C P2 (cd := .le) (o := 6) (by decide +kernel) (pc' := 26) (by decide) (pn := 23) rfl (fun (q4 : ¬ (255 : Int32) < x1) => ?_) (fun (q4 : (255 : Int32) < x1) => ?_)
    · skip
      refine blk C P2 [.aload_n 2, .iload_n 3, .iload 6, .i2b] (by decide +kernel) (pc' := 31) (L' := [.val (.ref b), .val (.int (1 : Int32)), .val (.ref d), .val (.int (1 : Int32)), .val (.int (4 : Int32)), .val (.int (1 : Int32)), .val (.int x1)]) (S' := [.int (x1.toInt8.toInt32), .int (1 : Int32), .ref d]) rfl ?_
      refine s_stB C P2 hE 1 (by decide +kernel) V2 rfl (Nat.lt_of_lt_of_le (Nat.lt_succ_self _) (le_ _ _ rfl)) (b8_idem _) (pc' := 32) rfl (fun T5 h5 P5 K5 V5 => ?_)
      have V6 := Chs.keep V3 K5 (Chs.neB V3 V2)
      replace V5 : Bys Z n0 h5 (d) [(x0.toInt8.toInt32), (x1.toInt8.toInt32), (0 : Int32), (0 : Int32)] := V5
      refine blk C P5 [.iinc 1 1, .iinc 3 1, .iinc 5 1] (by decide +kernel) (pc' := 41) (L' := [.val (.ref b), .val (.int (2 : Int32)), .val (.ref d), .val (.int (2 : Int32)), .val (.int (4 : Int32)), .val (.int (2 : Int32)), .val (.int x1)]) (S' := []) rfl ?_
      refine b_goto C P5 (o := -38) (by decide +kernel) (pc' := 3) (by decide) ?_
      refine blk C P5 [.iload 5, .iload 4] (by decide +kernel) (pc' := 7) (L' := [.val (.ref b), .val (.int (2 : Int32)), .val (.ref d), .val (.int (2 : Int32)), .val (.int (4 : Int32)), .val (.int (2 : Int32)), .val (.int x1)]) (S' := [.int (4 : Int32), .int (2 : Int32)]) rfl ?_
      refine b_cmN C P5 (cd := .ge) (o := 37) (by decide +kernel) (pc' := 10) rfl (by decide : (2 : Int32) < (4 : Int32)) ?_
      refine blk C P5 [.aload_n 0, .iload_n 1] (by decide +kernel) (pc' := 12) (L' := [.val (.ref b), .val (.int (2 : Int32)), .val (.ref d), .val (.int (2 : Int32)), .val (.int (4 : Int32)), .val (.int (2 : Int32)), .val (.int x1)]) (S' := [.int (2 : Int32), .ref b]) rfl ?_
      refine s_ldC C P5 2 (x := x2) (by decide +kernel) V6 rfl rfl (pc' := 13) rfl ?_
      refine blk C P5 [.istore 6, .iload 6, .sipush 255] (by decide +kernel) (pc' := 20) (L' := [.val (.ref b), .val (.int (2 : Int32)), .val (.ref d), .val (.int (2 : Int32)), .val (.int (4 : Int32)), .val (.int (2 : Int32)), .val (.int x2)]) (S' := [.int (255 : Int32), .int x2]) rfl ?_
      refine b_cm C P5 (cd := .le) (o := 6) (by decide +kernel) (pc' := 26) (by decide) (pn := 23) rfl (fun (q7 : ¬ (255 : Int32) < x2) => ?_) (fun (q7 : (255 : Int32) < x2) => ?_)
      · skip
        refine blk C P5 [.aload_n 2, .iload_n 3, .iload 6, .i2b] (by decide +kernel) (pc' := 31) (L' := [.val (.ref b), .val (.int (2 : Int32)), .val (.ref d), .val (.int (2 : Int32)), .val (.int (4 : Int32)), .val (.int (2 : Int32)), .val (.int x2)]) (S' := [.int (x2.toInt8.toInt32), .int (2 : Int32), .ref d]) rfl ?_
        refine s_stB C P5 hE 2 (by decide +kernel) V5 rfl (Nat.lt_of_lt_of_le (Nat.lt_succ_self _) (le_ _ _ rfl)) (b8_idem _) (pc' := 32) rfl (fun T8 h8 P8 K8 V8 => ?_)
        have V9 := Chs.keep V6 K8 (Chs.neB V6 V5)
        replace V8 : Bys Z n0 h8 (d) [(x0.toInt8.toInt32), (x1.toInt8.toInt32), (x2.toInt8.toInt32), (0 : Int32)] := V8
        refine blk C P8 [.iinc 1 1, .iinc 3 1, .iinc 5 1] (by decide +kernel) (pc' := 41) (L' := [.val (.ref b), .val (.int (3 : Int32)), .val (.ref d), .val (.int (3 : Int32)), .val (.int (4 : Int32)), .val (.int (3 : Int32)), .val (.int x2)]) (S' := []) rfl ?_
        refine b_goto C P8 (o := -38) (by decide +kernel) (pc' := 3) (by decide) ?_
        refine blk C P8 [.iload 5, .iload 4] (by decide +kernel) (pc' := 7) (L' := [.val (.ref b), .val (.int (3 : Int32)), .val (.ref d), .val (.int (3 : Int32)), .val (.int (4 : Int32)), .val (.int (3 : Int32)), .val (.int x2)]) (S' := [.int (4 : Int32), .int (3 : Int32)]) rfl ?_
        refine b_cmN C P8 (cd := .ge) (o := 37) (by decide +kernel) (pc' := 10) rfl (by decide : (3 : Int32) < (4 : Int32)) ?_
        refine blk C P8 [.aload_n 0, .iload_n 1] (by decide +kernel) (pc' := 12) (L' := [.val (.ref b), .val (.int (3 : Int32)), .val (.ref d), .val (.int (3 : Int32)), .val (.int (4 : Int32)), .val (.int (3 : Int32)), .val (.int x2)]) (S' := [.int (3 : Int32), .ref b]) rfl ?_
        refine s_ldC C P8 3 (x := x3) (by decide +kernel) V9 rfl rfl (pc' := 13) rfl ?_
        refine blk C P8 [.istore 6, .iload 6, .sipush 255] (by decide +kernel) (pc' := 20) (L' := [.val (.ref b), .val (.int (3 : Int32)), .val (.ref d), .val (.int (3 : Int32)), .val (.int (4 : Int32)), .val (.int (3 : Int32)), .val (.int x3)]) (S' := [.int (255 : Int32), .int x3]) rfl ?_
        refine b_cm C P8 (cd := .le) (o := 6) (by decide +kernel) (pc' := 26) (by decide) (pn := 23) rfl (fun (q10 : ¬ (255 : Int32) < x3) => ?_) (fun (q10 : (255 : Int32) < x3) => ?_)
        · skip
          refine blk C P8 [.aload_n 2, .iload_n 3, .iload 6, .i2b] (by decide +kernel) (pc' := 31) (L' := [.val (.ref b), .val (.int (3 : Int32)), .val (.ref d), .val (.int (3 : Int32)), .val (.int (4 : Int32)), .val (.int (3 : Int32)), .val (.int x3)]) (S' := [.int (x3.toInt8.toInt32), .int (3 : Int32), .ref d]) rfl ?_
          refine s_stB C P8 hE 3 (by decide +kernel) V8 rfl (Nat.lt_of_lt_of_le (Nat.lt_succ_self _) (le_ _ _ rfl)) (b8_idem _) (pc' := 32) rfl (fun T11 h11 P11 K11 V11 => ?_)
          have V12 := Chs.keep V9 K11 (Chs.neB V9 V8)
          replace V11 : Bys Z n0 h11 (d) [(x0.toInt8.toInt32), (x1.toInt8.toInt32), (x2.toInt8.toInt32), (x3.toInt8.toInt32)] := V11
          refine blk C P11 [.iinc 1 1, .iinc 3 1, .iinc 5 1] (by decide +kernel) (pc' := 41) (L' := [.val (.ref b), .val (.int (4 : Int32)), .val (.ref d), .val (.int (4 : Int32)), .val (.int (4 : Int32)), .val (.int (4 : Int32)), .val (.int x3)]) (S' := []) rfl ?_
          refine b_goto C P11 (o := -38) (by decide +kernel) (pc' := 3) (by decide) ?_
          refine blk C P11 [.iload 5, .iload 4] (by decide +kernel) (pc' := 7) (L' := [.val (.ref b), .val (.int (4 : Int32)), .val (.ref d), .val (.int (4 : Int32)), .val (.int (4 : Int32)), .val (.int (4 : Int32)), .val (.int x3)]) (S' := [.int (4 : Int32), .int (4 : Int32)]) rfl ?_
          refine b_cmY C P11 (cd := .ge) (o := 37) (by decide +kernel) (pc' := 44) (by decide) (by decide : ¬ (4 : Int32) < (4 : Int32)) ?_
          exact absurd any (fun z => z.elim q1 (fun z => z.elim q4 (fun z => z.elim q7 q10)))
        · skip
          refine blk C P8 [.iload 5] (by decide +kernel) (pc' := 25) (L' := [.val (.ref b), .val (.int (3 : Int32)), .val (.ref d), .val (.int (3 : Int32)), .val (.int (4 : Int32)), .val (.int (3 : Int32)), .val (.int x3)]) (S' := [.int (3 : Int32)]) rfl ?_
          exact r_int C P8 (ty := .int) (by simp) rfl (by decide +kernel) (le_ _ _ rfl) (le_ _ _ rfl) ⟨_, rfl, ⟨(keepT (keepT K2 K5) K8), Or.inr (Or.inr (Or.inr (⟨rfl, q10⟩)))⟩⟩
      · skip
        refine blk C P5 [.iload 5] (by decide +kernel) (pc' := 25) (L' := [.val (.ref b), .val (.int (2 : Int32)), .val (.ref d), .val (.int (2 : Int32)), .val (.int (4 : Int32)), .val (.int (2 : Int32)), .val (.int x2)]) (S' := [.int (2 : Int32)]) rfl ?_
        exact r_int C P5 (ty := .int) (by simp) rfl (by decide +kernel) (le_ _ _ rfl) (le_ _ _ rfl) ⟨_, rfl, ⟨(keepT K2 K5), Or.inr (Or.inr (Or.inl ⟨rfl, q7⟩))⟩⟩
    · skip
      refine blk C P2 [.iload 5] (by decide +kernel) (pc' := 25) (L' := [.val (.ref b), .val (.int (1 : Int32)), .val (.ref d), .val (.int (1 : Int32)), .val (.int (4 : Int32)), .val (.int (1 : Int32)), .val (.int x1)]) (S' := [.int (1 : Int32)]) rfl ?_
      exact r_int C P2 (ty := .int) (by simp) rfl (by decide +kernel) (le_ _ _ rfl) (le_ _ _ rfl) ⟨_, rfl, ⟨K2, Or.inr (Or.inl ⟨rfl, q4⟩)⟩⟩
  · skip
    refine blk C P [.iload 5] (by decide +kernel) (pc' := 25) (L' := [.val (.ref b), .val (.int (0 : Int32)), .val (.ref d), .val (.int (0 : Int32)), .val (.int (4 : Int32)), .val (.int (0 : Int32)), .val (.int x0)]) (S' := [.int (0 : Int32)]) rfl ?_
    exact r_int C P (ty := .int) (by simp) rfl (by decide +kernel) (le_ _ _ rfl) (le_ _ _ rfl) ⟨_, rfl, ⟨(Keep.refl h [d]), Or.inl ⟨rfl, q1⟩⟩⟩
theorem k_c3_4_ef (m : MethodId) (b : Addr) (x0 x1 x2 x3 : Int32) : entryFrame m #[.ref b, .int (0 : Int32), .int (4 : Int32)] 6 = fr m 0 [.val (.ref b), .val (.int (0 : Int32)), .val (.int (4 : Int32)), .unset, .unset, .unset] [] := by first | (simp [entryFrame, mkF, argsToLocals, Value.category]; done) | rfl
set_option maxRecDepth 65536 in
set_option maxHeartbeats 4000000 in
theorem k_c3_4 (l : Launch) {Z : State} {a0 : Array Value} {n0 : Nat} {h : Heap} {z : Int32} {fm : Value} (wd : Wd Z a0 z fm) (b : Addr) (x0 x1 x2 x3 : Int32)  (O : Old Z n0 h) (V : Chs Z n0 h b [x0, x1, x2, x3]) (any : (255 : Int32) < x0 ∨ (255 : Int32) < x1 ∨ (255 : Int32) < x2 ∨ (255 : Int32) < x3) (i0 : c16 x0 = x0) (i1 : c16 x1 = x1) (i2 : c16 x2 = x2) (i3 : c16 x3 = x3) :
    Con l Z consts_1 n0 [] (⟨"java/lang/StringUTF16", "compress", "([CII)[B"⟩ : MethodName) jdk_52_method_16_code 6 (some (.array .byte)) ({ frames := 3, cells := 2, slots := 12, locals := 40 } : Room) #[.ref b, .int (0 : Int32), .int (4 : Int32)] h (Ret1 fun v h' => ∃ t, v = .ref t ∧ Ext h h' ∧ Bys Z n0 h' t (wide [x0, x1, x2, x3])) := by
  obtain ⟨hw, hEL, Sz, hz, SA, SH, SL, SF, hfm⟩ := id wd
  refine Con.intro (plainFor_of_name (by first | (simp [plainName, overriddenIn]; done) | decide +kernel)) O hEL ?_
  intro p e s m below meth c T C hs P
  have C : Ctx Z a0 consts_1 p s m meth c "java/lang/StringUTF16" "compress" jdk_52_method_16_code 6 (some (.array .byte)) := C
  refine Run.cast (k_c3_4_ef m b x0 x1 x2 x3) ?_
  refine blk C P [.iload_n 2] (by decide +kernel) (pc' := 1) (L' := [.val (.ref b), .val (.int (0 : Int32)), .val (.int (4 : Int32)), .unset, .unset, .unset]) (S' := [.int (4 : Int32)]) rfl ?_
  refine s_newB C P 4 (by decide +kernel) (hw _ (List.mem_of_getElem? (i := 24) rfl)) rfl (by decide) (le_ _ _ rfl) (le_ _ _ rfl) (pc' := 3) rfl (fun T1 h1 P1 E1 V1 => ?_)
  replace P1 := P1.more (k' := 1) (n' := 4) (le_ _ _ rfl) (le_ _ _ rfl)
  refine blk C P1 [.astore_n 3, .aload_n 0, .iload_n 1, .aload_n 3, .iconst 0, .iload_n 2] (by decide +kernel) (pc' := 9) (L' := [.val (.ref b), .val (.int (0 : Int32)), .val (.int (4 : Int32)), .val (.ref h.size), .unset, .unset]) (S' := [.int (4 : Int32), .int (0 : Int32), .ref h.size, .int (0 : Int32), .ref b]) rfl ?_
  refine c_static C P1 (idx := 115) (y := (⟨"java/lang/StringUTF16", "compress", "([CI[BII)I"⟩ : MethodName)) (ybytes := jdk_52_method_21_code) (ymax := 7) (yret := (some .int)) (yrm := ({ frames := 0, cells := 0, slots := 0, locals := 0 } : Room)) (by decide +kernel) (hw _ (List.mem_of_getElem? (i := 73) rfl)) (hw _ (List.mem_of_getElem? (i := 74) rfl)) (hw _ (List.mem_of_getElem? (i := 71) rfl)) (hw _ (List.mem_of_getElem? (i := 75) rfl)) (by decide) [.ref b, .int (0 : Int32), .ref h.size, .int (0 : Int32), .int (4 : Int32)] [] (k_c5_4 l wd b (h.size) x0 x1 x2 x3 P1.old (V.ext E1) V1 any) (le_ _ _ rfl) (W := 0) (le_ _ _ rfl) (by decide +kernel : parseMethodDescriptor "([CI[BII)I" = some ⟨[(.array .char), .int, (.array .byte), .int, .int], some .int⟩) rfl rfl rfl (le_ _ _ rfl) (le_ _ _ rfl) (le_ _ _ rfl) (pc' := 12) rfl (fun T2 h2 v2 P2 Q2 => ?_)
  replace P2 := P2.more (k' := 1) (n' := 4) (le_ _ _ rfl) (le_ _ _ rfl)
  obtain ⟨K2, Q2⟩ := Q2
  rcases Q2 with ⟨rfl, Q2⟩ | ⟨rfl, Q2⟩ | ⟨rfl, Q2⟩ | ⟨rfl, Q2⟩
  · skip
    refine blk C P2 [.istore 4, .iload 4, .iload_n 2] (by decide +kernel) (pc' := 17) (L' := [.val (.ref b), .val (.int (0 : Int32)), .val (.int (4 : Int32)), .val (.ref h.size), .val (.int (0 : Int32)), .unset]) (S' := [.int (4 : Int32), .int (0 : Int32)]) rfl ?_
    refine b_cmN C P2 (cd := .eq) (o := 40) (by decide +kernel) (pc' := 20) rfl (by decide : ¬ (0 : Int32) = (4 : Int32)) ?_
    refine blk C P2 [.aload_n 0, .iload_n 1, .iload_n 2] (by decide +kernel) (pc' := 23) (L' := [.val (.ref b), .val (.int (0 : Int32)), .val (.int (4 : Int32)), .val (.ref h.size), .val (.int (0 : Int32)), .unset]) (S' := [.int (4 : Int32), .int (0 : Int32), .ref b]) rfl ?_
    refine c_static C P2 (idx := 119) (y := (⟨"java/lang/StringUTF16", "toBytes", "([CII)[B"⟩ : MethodName)) (ybytes := jdk_52_method_14_code) (ymax := 5) (yret := (some (.array .byte))) (yrm := ({ frames := 2, cells := 1, slots := 8, locals := 24 } : Room)) (by decide +kernel) (hw _ (List.mem_of_getElem? (i := 76) rfl)) (hw _ (List.mem_of_getElem? (i := 77) rfl)) (hw _ (List.mem_of_getElem? (i := 71) rfl)) (hw _ (List.mem_of_getElem? (i := 78) rfl)) (by decide) [.ref b, .int (0 : Int32), .int (4 : Int32)] [] (k_tb4 l wd b x0 x1 x2 x3 P2.old (V.ext (exK E1 K2 (Nat.le_refl _)))) (le_ _ _ rfl) (W := 0) (le_ _ _ rfl) (by decide +kernel : parseMethodDescriptor "([CII)[B" = some ⟨[(.array .char), .int, .int], some (.array .byte)⟩) rfl rfl rfl (le_ _ _ rfl) (le_ _ _ rfl) (le_ _ _ rfl) (pc' := 26) rfl (fun T3 h3 v3 P3 Q3 => ?_)
    replace P3 := P3.more (k' := 2) (n' := 12) (le_ _ _ rfl) (le_ _ _ rfl)
    obtain ⟨rfl, E3, V3⟩ := Q3
    refine blk C P3 [.astore 5, .aload 5, .iload 4] (by decide +kernel) (pc' := 32) (L' := [.val (.ref b), .val (.int (0 : Int32)), .val (.int (4 : Int32)), .val (.ref h.size), .val (.int (0 : Int32)), .val (.ref h2.size)]) (S' := [.int (0 : Int32), .ref h2.size]) rfl ?_
    refine c_static C P3 (idx := 71) (y := (⟨"java/lang/StringUTF16", "getChar", "([BI)C"⟩ : MethodName)) (ybytes := jdk_52_method_5_code) (ymax := 2) (yret := (some .char)) (yrm := ({ frames := 0, cells := 0, slots := 0, locals := 0 } : Room)) (by decide +kernel) (hw _ (List.mem_of_getElem? (i := 92) rfl)) (hw _ (List.mem_of_getElem? (i := 93) rfl)) (hw _ (List.mem_of_getElem? (i := 71) rfl)) (hw _ (List.mem_of_getElem? (i := 94) rfl)) (by decide) [.ref h2.size, .int (0 : Int32)] [] (k_gc0 l wd (h2.size) x0 P3.old V3 rfl rfl i0) (le_ _ _ rfl) (W := 0) (le_ _ _ rfl) (by decide +kernel : parseMethodDescriptor "([BI)C" = some ⟨[(.array .byte), .int], some .char⟩) rfl rfl rfl (le_ _ _ rfl) (le_ _ _ rfl) (le_ _ _ rfl) (pc' := 35) rfl (fun T4 h4 v4 P4 Q4 => ?_)
    replace P4 := P4.more (k' := 2) (n' := 12) (le_ _ _ rfl) (le_ _ _ rfl)
    obtain ⟨rfl, rfl⟩ := Q4
    refine blk C P4 [.sipush 255] (by decide +kernel) (pc' := 38) (L' := [.val (.ref b), .val (.int (0 : Int32)), .val (.int (4 : Int32)), .val (.ref h.size), .val (.int (0 : Int32)), .val (.ref h2.size)]) (S' := [.int (255 : Int32), .int x0]) rfl ?_
    refine b_cmY C P4 (cd := .gt) (o := 16) (by decide +kernel) (pc' := 54) (by decide) Q2 ?_
    refine blk C P4 [.aload 5] (by decide +kernel) (pc' := 56) (L' := [.val (.ref b), .val (.int (0 : Int32)), .val (.int (4 : Int32)), .val (.ref h.size), .val (.int (0 : Int32)), .val (.ref h2.size)]) (S' := [.ref h2.size]) rfl ?_
    exact r_ref C P4 (w := .ref h2.size) rfl rfl (by decide +kernel) (le_ _ _ rfl) (le_ _ _ rfl) ⟨_, rfl, ⟨_, rfl, (exT (exK E1 K2 (Nat.le_refl _)) E3), V3⟩⟩
  · skip
    refine blk C P2 [.istore 4, .iload 4, .iload_n 2] (by decide +kernel) (pc' := 17) (L' := [.val (.ref b), .val (.int (0 : Int32)), .val (.int (4 : Int32)), .val (.ref h.size), .val (.int (1 : Int32)), .unset]) (S' := [.int (4 : Int32), .int (1 : Int32)]) rfl ?_
    refine b_cmN C P2 (cd := .eq) (o := 40) (by decide +kernel) (pc' := 20) rfl (by decide : ¬ (1 : Int32) = (4 : Int32)) ?_
    refine blk C P2 [.aload_n 0, .iload_n 1, .iload_n 2] (by decide +kernel) (pc' := 23) (L' := [.val (.ref b), .val (.int (0 : Int32)), .val (.int (4 : Int32)), .val (.ref h.size), .val (.int (1 : Int32)), .unset]) (S' := [.int (4 : Int32), .int (0 : Int32), .ref b]) rfl ?_
    refine c_static C P2 (idx := 119) (y := (⟨"java/lang/StringUTF16", "toBytes", "([CII)[B"⟩ : MethodName)) (ybytes := jdk_52_method_14_code) (ymax := 5) (yret := (some (.array .byte))) (yrm := ({ frames := 2, cells := 1, slots := 8, locals := 24 } : Room)) (by decide +kernel) (hw _ (List.mem_of_getElem? (i := 76) rfl)) (hw _ (List.mem_of_getElem? (i := 77) rfl)) (hw _ (List.mem_of_getElem? (i := 71) rfl)) (hw _ (List.mem_of_getElem? (i := 78) rfl)) (by decide) [.ref b, .int (0 : Int32), .int (4 : Int32)] [] (k_tb4 l wd b x0 x1 x2 x3 P2.old (V.ext (exK E1 K2 (Nat.le_refl _)))) (le_ _ _ rfl) (W := 0) (le_ _ _ rfl) (by decide +kernel : parseMethodDescriptor "([CII)[B" = some ⟨[(.array .char), .int, .int], some (.array .byte)⟩) rfl rfl rfl (le_ _ _ rfl) (le_ _ _ rfl) (le_ _ _ rfl) (pc' := 26) rfl (fun T5 h5 v5 P5 Q5 => ?_)
    replace P5 := P5.more (k' := 2) (n' := 12) (le_ _ _ rfl) (le_ _ _ rfl)
    obtain ⟨rfl, E5, V5⟩ := Q5
    refine blk C P5 [.astore 5, .aload 5, .iload 4] (by decide +kernel) (pc' := 32) (L' := [.val (.ref b), .val (.int (0 : Int32)), .val (.int (4 : Int32)), .val (.ref h.size), .val (.int (1 : Int32)), .val (.ref h2.size)]) (S' := [.int (1 : Int32), .ref h2.size]) rfl ?_
    refine c_static C P5 (idx := 71) (y := (⟨"java/lang/StringUTF16", "getChar", "([BI)C"⟩ : MethodName)) (ybytes := jdk_52_method_5_code) (ymax := 2) (yret := (some .char)) (yrm := ({ frames := 0, cells := 0, slots := 0, locals := 0 } : Room)) (by decide +kernel) (hw _ (List.mem_of_getElem? (i := 92) rfl)) (hw _ (List.mem_of_getElem? (i := 93) rfl)) (hw _ (List.mem_of_getElem? (i := 71) rfl)) (hw _ (List.mem_of_getElem? (i := 94) rfl)) (by decide) [.ref h2.size, .int (1 : Int32)] [] (k_gc1 l wd (h2.size) x1 P5.old V5 rfl rfl i1) (le_ _ _ rfl) (W := 0) (le_ _ _ rfl) (by decide +kernel : parseMethodDescriptor "([BI)C" = some ⟨[(.array .byte), .int], some .char⟩) rfl rfl rfl (le_ _ _ rfl) (le_ _ _ rfl) (le_ _ _ rfl) (pc' := 35) rfl (fun T6 h6 v6 P6 Q6 => ?_)
    replace P6 := P6.more (k' := 2) (n' := 12) (le_ _ _ rfl) (le_ _ _ rfl)
    obtain ⟨rfl, rfl⟩ := Q6
    refine blk C P6 [.sipush 255] (by decide +kernel) (pc' := 38) (L' := [.val (.ref b), .val (.int (0 : Int32)), .val (.int (4 : Int32)), .val (.ref h.size), .val (.int (1 : Int32)), .val (.ref h2.size)]) (S' := [.int (255 : Int32), .int x1]) rfl ?_
    refine b_cmY C P6 (cd := .gt) (o := 16) (by decide +kernel) (pc' := 54) (by decide) Q2 ?_
    refine blk C P6 [.aload 5] (by decide +kernel) (pc' := 56) (L' := [.val (.ref b), .val (.int (0 : Int32)), .val (.int (4 : Int32)), .val (.ref h.size), .val (.int (1 : Int32)), .val (.ref h2.size)]) (S' := [.ref h2.size]) rfl ?_
    exact r_ref C P6 (w := .ref h2.size) rfl rfl (by decide +kernel) (le_ _ _ rfl) (le_ _ _ rfl) ⟨_, rfl, ⟨_, rfl, (exT (exK E1 K2 (Nat.le_refl _)) E5), V5⟩⟩
  · skip
    refine blk C P2 [.istore 4, .iload 4, .iload_n 2] (by decide +kernel) (pc' := 17) (L' := [.val (.ref b), .val (.int (0 : Int32)), .val (.int (4 : Int32)), .val (.ref h.size), .val (.int (2 : Int32)), .unset]) (S' := [.int (4 : Int32), .int (2 : Int32)]) rfl ?_
    refine b_cmN C P2 (cd := .eq) (o := 40) (by decide +kernel) (pc' := 20) rfl (by decide : ¬ (2 : Int32) = (4 : Int32)) ?_
    refine blk C P2 [.aload_n 0, .iload_n 1, .iload_n 2] (by decide +kernel) (pc' := 23) (L' := [.val (.ref b), .val (.int (0 : Int32)), .val (.int (4 : Int32)), .val (.ref h.size), .val (.int (2 : Int32)), .unset]) (S' := [.int (4 : Int32), .int (0 : Int32), .ref b]) rfl ?_
    refine c_static C P2 (idx := 119) (y := (⟨"java/lang/StringUTF16", "toBytes", "([CII)[B"⟩ : MethodName)) (ybytes := jdk_52_method_14_code) (ymax := 5) (yret := (some (.array .byte))) (yrm := ({ frames := 2, cells := 1, slots := 8, locals := 24 } : Room)) (by decide +kernel) (hw _ (List.mem_of_getElem? (i := 76) rfl)) (hw _ (List.mem_of_getElem? (i := 77) rfl)) (hw _ (List.mem_of_getElem? (i := 71) rfl)) (hw _ (List.mem_of_getElem? (i := 78) rfl)) (by decide) [.ref b, .int (0 : Int32), .int (4 : Int32)] [] (k_tb4 l wd b x0 x1 x2 x3 P2.old (V.ext (exK E1 K2 (Nat.le_refl _)))) (le_ _ _ rfl) (W := 0) (le_ _ _ rfl) (by decide +kernel : parseMethodDescriptor "([CII)[B" = some ⟨[(.array .char), .int, .int], some (.array .byte)⟩) rfl rfl rfl (le_ _ _ rfl) (le_ _ _ rfl) (le_ _ _ rfl) (pc' := 26) rfl (fun T7 h7 v7 P7 Q7 => ?_)
    replace P7 := P7.more (k' := 2) (n' := 12) (le_ _ _ rfl) (le_ _ _ rfl)
    obtain ⟨rfl, E7, V7⟩ := Q7
    refine blk C P7 [.astore 5, .aload 5, .iload 4] (by decide +kernel) (pc' := 32) (L' := [.val (.ref b), .val (.int (0 : Int32)), .val (.int (4 : Int32)), .val (.ref h.size), .val (.int (2 : Int32)), .val (.ref h2.size)]) (S' := [.int (2 : Int32), .ref h2.size]) rfl ?_
    refine c_static C P7 (idx := 71) (y := (⟨"java/lang/StringUTF16", "getChar", "([BI)C"⟩ : MethodName)) (ybytes := jdk_52_method_5_code) (ymax := 2) (yret := (some .char)) (yrm := ({ frames := 0, cells := 0, slots := 0, locals := 0 } : Room)) (by decide +kernel) (hw _ (List.mem_of_getElem? (i := 92) rfl)) (hw _ (List.mem_of_getElem? (i := 93) rfl)) (hw _ (List.mem_of_getElem? (i := 71) rfl)) (hw _ (List.mem_of_getElem? (i := 94) rfl)) (by decide) [.ref h2.size, .int (2 : Int32)] [] (k_gc2 l wd (h2.size) x2 P7.old V7 rfl rfl i2) (le_ _ _ rfl) (W := 0) (le_ _ _ rfl) (by decide +kernel : parseMethodDescriptor "([BI)C" = some ⟨[(.array .byte), .int], some .char⟩) rfl rfl rfl (le_ _ _ rfl) (le_ _ _ rfl) (le_ _ _ rfl) (pc' := 35) rfl (fun T8 h8 v8 P8 Q8 => ?_)
    replace P8 := P8.more (k' := 2) (n' := 12) (le_ _ _ rfl) (le_ _ _ rfl)
    obtain ⟨rfl, rfl⟩ := Q8
    refine blk C P8 [.sipush 255] (by decide +kernel) (pc' := 38) (L' := [.val (.ref b), .val (.int (0 : Int32)), .val (.int (4 : Int32)), .val (.ref h.size), .val (.int (2 : Int32)), .val (.ref h2.size)]) (S' := [.int (255 : Int32), .int x2]) rfl ?_
    refine b_cmY C P8 (cd := .gt) (o := 16) (by decide +kernel) (pc' := 54) (by decide) Q2 ?_
    refine blk C P8 [.aload 5] (by decide +kernel) (pc' := 56) (L' := [.val (.ref b), .val (.int (0 : Int32)), .val (.int (4 : Int32)), .val (.ref h.size), .val (.int (2 : Int32)), .val (.ref h2.size)]) (S' := [.ref h2.size]) rfl ?_
    exact r_ref C P8 (w := .ref h2.size) rfl rfl (by decide +kernel) (le_ _ _ rfl) (le_ _ _ rfl) ⟨_, rfl, ⟨_, rfl, (exT (exK E1 K2 (Nat.le_refl _)) E7), V7⟩⟩
  · skip
    refine blk C P2 [.istore 4, .iload 4, .iload_n 2] (by decide +kernel) (pc' := 17) (L' := [.val (.ref b), .val (.int (0 : Int32)), .val (.int (4 : Int32)), .val (.ref h.size), .val (.int (3 : Int32)), .unset]) (S' := [.int (4 : Int32), .int (3 : Int32)]) rfl ?_
    refine b_cmN C P2 (cd := .eq) (o := 40) (by decide +kernel) (pc' := 20) rfl (by decide : ¬ (3 : Int32) = (4 : Int32)) ?_
    refine blk C P2 [.aload_n 0, .iload_n 1, .iload_n 2] (by decide +kernel) (pc' := 23) (L' := [.val (.ref b), .val (.int (0 : Int32)), .val (.int (4 : Int32)), .val (.ref h.size), .val (.int (3 : Int32)), .unset]) (S' := [.int (4 : Int32), .int (0 : Int32), .ref b]) rfl ?_
    refine c_static C P2 (idx := 119) (y := (⟨"java/lang/StringUTF16", "toBytes", "([CII)[B"⟩ : MethodName)) (ybytes := jdk_52_method_14_code) (ymax := 5) (yret := (some (.array .byte))) (yrm := ({ frames := 2, cells := 1, slots := 8, locals := 24 } : Room)) (by decide +kernel) (hw _ (List.mem_of_getElem? (i := 76) rfl)) (hw _ (List.mem_of_getElem? (i := 77) rfl)) (hw _ (List.mem_of_getElem? (i := 71) rfl)) (hw _ (List.mem_of_getElem? (i := 78) rfl)) (by decide) [.ref b, .int (0 : Int32), .int (4 : Int32)] [] (k_tb4 l wd b x0 x1 x2 x3 P2.old (V.ext (exK E1 K2 (Nat.le_refl _)))) (le_ _ _ rfl) (W := 0) (le_ _ _ rfl) (by decide +kernel : parseMethodDescriptor "([CII)[B" = some ⟨[(.array .char), .int, .int], some (.array .byte)⟩) rfl rfl rfl (le_ _ _ rfl) (le_ _ _ rfl) (le_ _ _ rfl) (pc' := 26) rfl (fun T9 h9 v9 P9 Q9 => ?_)
    replace P9 := P9.more (k' := 2) (n' := 12) (le_ _ _ rfl) (le_ _ _ rfl)
    obtain ⟨rfl, E9, V9⟩ := Q9
    refine blk C P9 [.astore 5, .aload 5, .iload 4] (by decide +kernel) (pc' := 32) (L' := [.val (.ref b), .val (.int (0 : Int32)), .val (.int (4 : Int32)), .val (.ref h.size), .val (.int (3 : Int32)), .val (.ref h2.size)]) (S' := [.int (3 : Int32), .ref h2.size]) rfl ?_
    refine c_static C P9 (idx := 71) (y := (⟨"java/lang/StringUTF16", "getChar", "([BI)C"⟩ : MethodName)) (ybytes := jdk_52_method_5_code) (ymax := 2) (yret := (some .char)) (yrm := ({ frames := 0, cells := 0, slots := 0, locals := 0 } : Room)) (by decide +kernel) (hw _ (List.mem_of_getElem? (i := 92) rfl)) (hw _ (List.mem_of_getElem? (i := 93) rfl)) (hw _ (List.mem_of_getElem? (i := 71) rfl)) (hw _ (List.mem_of_getElem? (i := 94) rfl)) (by decide) [.ref h2.size, .int (3 : Int32)] [] (k_gc3 l wd (h2.size) x3 P9.old V9 rfl rfl i3) (le_ _ _ rfl) (W := 0) (le_ _ _ rfl) (by decide +kernel : parseMethodDescriptor "([BI)C" = some ⟨[(.array .byte), .int], some .char⟩) rfl rfl rfl (le_ _ _ rfl) (le_ _ _ rfl) (le_ _ _ rfl) (pc' := 35) rfl (fun T10 h10 v10 P10 Q10 => ?_)
    replace P10 := P10.more (k' := 2) (n' := 12) (le_ _ _ rfl) (le_ _ _ rfl)
    obtain ⟨rfl, rfl⟩ := Q10
    refine blk C P10 [.sipush 255] (by decide +kernel) (pc' := 38) (L' := [.val (.ref b), .val (.int (0 : Int32)), .val (.int (4 : Int32)), .val (.ref h.size), .val (.int (3 : Int32)), .val (.ref h2.size)]) (S' := [.int (255 : Int32), .int x3]) rfl ?_
    refine b_cmY C P10 (cd := .gt) (o := 16) (by decide +kernel) (pc' := 54) (by decide) Q2 ?_
    refine blk C P10 [.aload 5] (by decide +kernel) (pc' := 56) (L' := [.val (.ref b), .val (.int (0 : Int32)), .val (.int (4 : Int32)), .val (.ref h.size), .val (.int (3 : Int32)), .val (.ref h2.size)]) (S' := [.ref h2.size]) rfl ?_
    exact r_ref C P10 (w := .ref h2.size) rfl rfl (by decide +kernel) (le_ _ _ rfl) (le_ _ _ rfl) ⟨_, rfl, ⟨_, rfl, (exT (exK E1 K2 (Nat.le_refl _)) E9), V9⟩⟩
theorem k_cl4_ef (m : MethodId) (t : Addr) (x0 x1 x2 x3 : Int32) : entryFrame m #[.ref t, .int (4 : Int32)] 2 = fr m 0 [.val (.ref t), .val (.int (4 : Int32))] [] := by first | (simp [entryFrame, mkF, argsToLocals, Value.category]; done) | rfl
set_option maxRecDepth 65536 in
set_option maxHeartbeats 4000000 in
theorem k_cl4 (l : Launch) {Z : State} {a0 : Array Value} {n0 : Nat} {h : Heap} {z : Int32} {fm : Value} (wd : Wd Z a0 z fm) (t : Addr) (x0 x1 x2 x3 : Int32)  (O : Old Z n0 h) (B : Bys Z n0 h t (wide [x0, x1, x2, x3])) :
    Con l Z consts_1 n0 [] (⟨"java/lang/StringUTF16", "coderFromArrayLen", "([BI)B"⟩ : MethodName) jdk_52_method_15_code 2 (some .byte) ({ frames := 0, cells := 0, slots := 0, locals := 0 } : Room) #[.ref t, .int (4 : Int32)] h (Ret1 fun v h' => v = .int 1 ∧ h = h') := by
  obtain ⟨hw, hEL, Sz, hz, SA, SH, SL, SF, hfm⟩ := id wd
  refine Con.intro (plainFor_of_name (by first | (simp [plainName, overriddenIn]; done) | decide +kernel)) O hEL ?_
  intro p e s m below meth c T C hs P
  have C : Ctx Z a0 consts_1 p s m meth c "java/lang/StringUTF16" "coderFromArrayLen" jdk_52_method_15_code 2 (some .byte) := C
  refine Run.cast (k_cl4_ef m t x0 x1 x2 x3) ?_
  refine blk C P [.iload_n 1, .aload_n 0] (by decide +kernel) (pc' := 2) (L' := [.val (.ref t), .val (.int (4 : Int32))]) (S' := [.ref t, .int (4 : Int32)]) rfl ?_
  refine s_alenB C P 8 (by decide +kernel) B rfl (pc' := 3) rfl ?_
  refine blk C P [.isub, .bipush 31, .iushr, .i2b] (by decide +kernel) (pc' := 8) (L' := [.val (.ref t), .val (.int (4 : Int32))]) (S' := [.int (1 : Int32)]) rfl ?_
  exact r_int C P (ty := .byte) (by simp) rfl (by decide +kernel) (le_ _ _ rfl) (le_ _ _ rfl) ⟨_, rfl, ⟨rfl, rfl⟩⟩
theorem k_i4_4_ef (m : MethodId) (a b : Addr) (x0 x1 x2 x3 : Int32) : entryFrame m #[.ref a, .ref b, .int (0 : Int32), .int (4 : Int32), .null] 6 = fr m 0 [.val (.ref a), .val (.ref b), .val (.int (0 : Int32)), .val (.int (4 : Int32)), .val (.null), .unset] [] := by first | (simp [entryFrame, mkF, argsToLocals, Value.category]; done) | rfl
set_option maxRecDepth 65536 in
set_option maxHeartbeats 4000000 in
theorem k_i4_4 (l : Launch) {Z : State} {a0 : Array Value} {n0 : Nat} {h : Heap} {z : Int32} {fm : Value} (wd : Wd Z a0 z fm) (a b : Addr) (x0 x1 x2 x3 : Int32)  (O : Old Z n0 h) (B : Blk Z a0 n0 h a sST) (V : Chs Z n0 h b [x0, x1, x2, x3]) (any : (255 : Int32) < x0 ∨ (255 : Int32) < x1 ∨ (255 : Int32) < x2 ∨ (255 : Int32) < x3) (i0 : c16 x0 = x0) (i1 : c16 x1 = x1) (i2 : c16 x2 = x2) (i3 : c16 x3 = x3) :
    Con l Z consts_1 n0 [] (⟨"java/lang/String", "<init>", "([CIILjava/lang/Void;)V"⟩ : MethodName) jdk_42_method_149_code 6 none ({ frames := 4, cells := 2, slots := 12, locals := 57 } : Room) #[.ref a, .ref b, .int (0 : Int32), .int (4 : Int32), .null] h (Ret0 fun h' => Keep h h' [a] ∧ Str16 Z n0 h' a [x0, x1, x2, x3]) := by
  obtain ⟨hw, hEL, Sz, hz, SA, SH, SL, SF, hfm⟩ := id wd
  refine Con.intro (plainFor_of_name (by first | (simp [plainName, overriddenIn]; done) | decide +kernel)) O hEL ?_
  intro p e s m below meth c T C hs P
  have C : Ctx Z a0 consts_1 p s m meth c "java/lang/String" "<init>" jdk_42_method_149_code 6 none := C
  refine Run.cast (k_i4_4_ef m a b x0 x1 x2 x3) ?_
  refine blk C P [.aload_n 0] (by decide +kernel) (pc' := 1) (L' := [.val (.ref a), .val (.ref b), .val (.int (0 : Int32)), .val (.int (4 : Int32)), .val (.null), .unset]) (S' := [.ref a]) rfl ?_
  refine s_initO C P (idx := 1) (by decide +kernel) (hw _ (List.mem_of_getElem? (i := 20) rfl)) (hw _ (List.mem_of_getElem? (i := 21) rfl)) (hw _ (List.mem_of_getElem? (i := 22) rfl)) rfl (le_ _ _ rfl) (W := 0) (le_ _ _ rfl) (le_ _ _ rfl) (pc' := 4) rfl (fun T1 P1 => ?_)
  refine blk C P1 [.iload_n 3] (by decide +kernel) (pc' := 5) (L' := [.val (.ref a), .val (.ref b), .val (.int (0 : Int32)), .val (.int (4 : Int32)), .val (.null), .unset]) (S' := [.int (4 : Int32)]) rfl ?_
  refine b_ifY C P1 (cd := .ne) (o := 22) (by decide +kernel) (pc' := 27) (by decide) (by decide : ¬ (4 : Int32) = 0) ?_
  refine s_gets C P1 (idx := 38) (by decide +kernel) (hw _ (List.mem_of_getElem? (i := 51) rfl)) Sz (pc' := 30) rfl (fun T2 P2 => ?_)
  refine b_ifN C P2 (cd := .eq) (o := 28) (by decide +kernel) (pc' := 33) rfl hz ?_
  refine blk C P2 [.aload_n 1, .iload_n 2, .iload_n 3] (by decide +kernel) (pc' := 36) (L' := [.val (.ref a), .val (.ref b), .val (.int (0 : Int32)), .val (.int (4 : Int32)), .val (.null), .unset]) (S' := [.int (4 : Int32), .int (0 : Int32), .ref b]) rfl ?_
  refine c_static C P2 (idx := 177) (y := (⟨"java/lang/StringUTF16", "compress", "([CII)[B"⟩ : MethodName)) (ybytes := jdk_52_method_16_code) (ymax := 6) (yret := (some (.array .byte))) (yrm := ({ frames := 3, cells := 2, slots := 12, locals := 40 } : Room)) (by decide +kernel) (hw _ (List.mem_of_getElem? (i := 69) rfl)) (hw _ (List.mem_of_getElem? (i := 70) rfl)) (hw _ (List.mem_of_getElem? (i := 71) rfl)) (hw _ (List.mem_of_getElem? (i := 72) rfl)) (by decide) [.ref b, .int (0 : Int32), .int (4 : Int32)] [] (k_c3_4 l wd b x0 x1 x2 x3 P2.old V any i0 i1 i2 i3) (le_ _ _ rfl) (W := 0) (le_ _ _ rfl) (by decide +kernel : parseMethodDescriptor "([CII)[B" = some ⟨[(.array .char), .int, .int], some (.array .byte)⟩) rfl rfl rfl (le_ _ _ rfl) (le_ _ _ rfl) (le_ _ _ rfl) (pc' := 39) rfl (fun T3 h3 v3 P3 Q3 => ?_)
  replace P3 := P3.more (k' := 2) (n' := 12) (le_ _ _ rfl) (le_ _ _ rfl)
  obtain ⟨b3, rfl, E3, V3⟩ := Q3
  refine blk C P3 [.astore 5, .aload_n 0, .aload 5, .iload_n 3] (by decide +kernel) (pc' := 45) (L' := [.val (.ref a), .val (.ref b), .val (.int (0 : Int32)), .val (.int (4 : Int32)), .val (.null), .val (.ref b3)]) (S' := [.int (4 : Int32), .ref b3, .ref a]) rfl ?_
  refine c_static C P3 (idx := 47) (y := (⟨"java/lang/StringUTF16", "coderFromArrayLen", "([BI)B"⟩ : MethodName)) (ybytes := jdk_52_method_15_code) (ymax := 2) (yret := (some .byte)) (yrm := ({ frames := 0, cells := 0, slots := 0, locals := 0 } : Room)) (by decide +kernel) (hw _ (List.mem_of_getElem? (i := 95) rfl)) (hw _ (List.mem_of_getElem? (i := 96) rfl)) (hw _ (List.mem_of_getElem? (i := 71) rfl)) (hw _ (List.mem_of_getElem? (i := 97) rfl)) (by decide) [.ref b3, .int (4 : Int32)] [.ref a] (k_cl4 l wd b3 x0 x1 x2 x3 P3.old V3) (le_ _ _ rfl) (W := 1) (le_ _ _ rfl) (by decide +kernel : parseMethodDescriptor "([BI)B" = some ⟨[(.array .byte), .int], some .byte⟩) rfl rfl rfl (le_ _ _ rfl) (le_ _ _ rfl) (le_ _ _ rfl) (pc' := 48) rfl (fun T4 h4 v4 P4 Q4 => ?_)
  replace P4 := P4.more (k' := 2) (n' := 12) (le_ _ _ rfl) (le_ _ _ rfl)
  obtain ⟨rfl, rfl⟩ := Q4
  refine s_putS C P4 (idx := 15) (by decide +kernel) (hw _ (List.mem_of_getElem? (i := 30) rfl)) B.1 ((B.2.2 (Or.inr (hw _ (List.mem_of_getElem? (i := 26) rfl))) (ty := .byte) (by decide)).ext E3) (B.2.1.ext E3) ((B.2.2 (Or.inr (hw _ (List.mem_of_getElem? (i := 25) rfl))) (ty := (.array .byte)) (by decide)).ext E3) (hw _ (List.mem_of_getElem? (i := 26) rfl)) rfl (hw _ (List.mem_of_getElem? (i := 7) rfl)) (ty := .byte) (by decide) rfl rfl (pc' := 51) rfl (fun T5 h5 P5 W5 => ?_)
  have G6 := (B.2.1.ext E3).wr W5
  have G7 := ((B.2.2 (Or.inr (hw _ (List.mem_of_getElem? (i := 26) rfl))) (ty := .byte) (by decide)).ext E3).same W5
  have G8 := ((B.2.2 (Or.inr (hw _ (List.mem_of_getElem? (i := 25) rfl))) (ty := (.array .byte)) (by decide)).ext E3).other W5 (Or.inr (slot_ne (C := "java/lang/String") (Or.inr (hw _ (List.mem_of_getElem? (i := 25) rfl))) (Or.inr (hw _ (List.mem_of_getElem? (i := 26) rfl))) (by decide) (t := (.array .byte)) (by decide) (t' := .byte) (by decide)))
  have G9 := Bys.wr V3 W5 (B.2.1.ext E3) (hw _ (List.mem_of_getElem? (i := 7) rfl))
  refine blk C P5 [.aload_n 0, .aload 5] (by decide +kernel) (pc' := 54) (L' := [.val (.ref a), .val (.ref b), .val (.int (0 : Int32)), .val (.int (4 : Int32)), .val (.null), .val (.ref b3)]) (S' := [.ref b3, .ref a]) rfl ?_
  refine s_putS C P5 (idx := 9) (by decide +kernel) (hw _ (List.mem_of_getElem? (i := 29) rfl)) B.1 G8 G6 G8 (hw _ (List.mem_of_getElem? (i := 25) rfl)) rfl (hw _ (List.mem_of_getElem? (i := 7) rfl)) (ty := (.array .byte)) (by decide) rfl rfl (pc' := 57) rfl (fun T10 h10 P10 W10 => ?_)
  have G11 := G6.wr W10
  have G12 := G7.other W10 (Or.inr (slot_ne (C := "java/lang/String") (Or.inr (hw _ (List.mem_of_getElem? (i := 26) rfl))) (Or.inr (hw _ (List.mem_of_getElem? (i := 25) rfl))) (by decide) (t := .byte) (by decide) (t' := (.array .byte)) (by decide)))
  have G13 := G8.same W10
  have G14 := Bys.wr G9 W10 G6 (hw _ (List.mem_of_getElem? (i := 7) rfl))
  exact r_void C P10 (by decide +kernel) (le_ _ _ rfl) (le_ _ _ rfl) ⟨rfl, ⟨((((Keep.refl h [a]).ext E3).wr W5 (Or.inl (List.mem_singleton.mpr rfl))).wr W10 (Or.inl (List.mem_singleton.mpr rfl))), G11, G12, _, G13, G14⟩⟩
theorem k_i1_4_ef (m : MethodId) (a b : Addr) (x0 x1 x2 x3 : Int32) : entryFrame m #[.ref a, .ref b] 2 = fr m 0 [.val (.ref a), .val (.ref b)] [] := by first | (simp [entryFrame, mkF, argsToLocals, Value.category]; done) | rfl
set_option maxRecDepth 65536 in
set_option maxHeartbeats 4000000 in
theorem k_i1_4 (l : Launch) {Z : State} {a0 : Array Value} {n0 : Nat} {h : Heap} {z : Int32} {fm : Value} (wd : Wd Z a0 z fm) (a b : Addr) (x0 x1 x2 x3 : Int32)  (O : Old Z n0 h) (B : Blk Z a0 n0 h a sST) (V : Chs Z n0 h b [x0, x1, x2, x3]) (any : (255 : Int32) < x0 ∨ (255 : Int32) < x1 ∨ (255 : Int32) < x2 ∨ (255 : Int32) < x3) (i0 : c16 x0 = x0) (i1 : c16 x1 = x1) (i2 : c16 x2 = x2) (i3 : c16 x3 = x3) :
    Con l Z consts_1 n0 [] (⟨"java/lang/String", "<init>", "([C)V"⟩ : MethodName) jdk_42_method_3_code 2 none ({ frames := 5, cells := 2, slots := 12, locals := 74 } : Room) #[.ref a, .ref b] h (Ret0 fun h' => Keep h h' [a] ∧ Str16 Z n0 h' a [x0, x1, x2, x3]) := by
  obtain ⟨hw, hEL, Sz, hz, SA, SH, SL, SF, hfm⟩ := id wd
  refine Con.intro (plainFor_of_name (by first | (simp [plainName, overriddenIn]; done) | decide +kernel)) O hEL ?_
  intro p e s m below meth c T C hs P
  have C : Ctx Z a0 consts_1 p s m meth c "java/lang/String" "<init>" jdk_42_method_3_code 2 none := C
  refine Run.cast (k_i1_4_ef m a b x0 x1 x2 x3) ?_
  refine blk C P [.aload_n 0, .aload_n 1, .iconst 0, .aload_n 1] (by decide +kernel) (pc' := 4) (L' := [.val (.ref a), .val (.ref b)]) (S' := [.ref b, .int (0 : Int32), .ref b, .ref a]) rfl ?_
  refine s_alenC C P 4 (by decide +kernel) V rfl (pc' := 5) rfl ?_
  refine blk C P [.aconst_null] (by decide +kernel) (pc' := 6) (L' := [.val (.ref a), .val (.ref b)]) (S' := [.null, .int (4 : Int32), .int (0 : Int32), .ref b, .ref a]) rfl ?_
  refine c_special C P (idx := 27) (y := (⟨"java/lang/String", "<init>", "([CIILjava/lang/Void;)V"⟩ : MethodName)) (ybytes := jdk_42_method_149_code) (ymax := 6) (yrm := ({ frames := 4, cells := 2, slots := 12, locals := 57 } : Room)) rfl (by decide +kernel) (hw _ (List.mem_of_getElem? (i := 16) rfl)) (hw _ (List.mem_of_getElem? (i := 17) rfl)) (hw _ (List.mem_of_getElem? (i := 8) rfl)) (hw _ (List.mem_of_getElem? (i := 19) rfl)) (by decide) [.ref b, .int (0 : Int32), .int (4 : Int32), .null] [] (k_i4_4 l wd a b x0 x1 x2 x3 P.old B V any i0 i1 i2 i3) (le_ _ _ rfl) (W := 0) (le_ _ _ rfl) (by decide +kernel : parseMethodDescriptor "([CIILjava/lang/Void;)V" = some ⟨[(.array .char), .int, .int, (.object "java/lang/Void")], none⟩) rfl rfl rfl (le_ _ _ rfl) (le_ _ _ rfl) (le_ _ _ rfl) (pc' := 9) rfl (fun T1 h1 P1 Q1 => ?_)
  replace P1 := P1.more (k' := 2) (n' := 12) (le_ _ _ rfl) (le_ _ _ rfl)
  obtain ⟨K1, S1⟩ := Q1
  exact r_void C P1 (by decide +kernel) (le_ _ _ rfl) (le_ _ _ rfl) ⟨rfl, ⟨K1, S1⟩⟩
theorem k_mn4_ef (m : MethodId)  : entryFrame m #[.int (4 : Int32), .int (4 : Int32)] 2 = fr m 0 [.val (.int (4 : Int32)), .val (.int (4 : Int32))] [] := by first | (simp [entryFrame, mkF, argsToLocals, Value.category]; done) | rfl
set_option maxRecDepth 65536 in
set_option maxHeartbeats 4000000 in
theorem k_mn4 (l : Launch) {Z : State} {a0 : Array Value} {n0 : Nat} {h : Heap} {z : Int32} {fm : Value} (wd : Wd Z a0 z fm)   (O : Old Z n0 h)  :
    Con l Z consts_1 n0 [] (⟨"java/lang/Math", "min", "(II)I"⟩ : MethodName) jdk_29_method_69_code 2 (some .int) ({ frames := 0, cells := 0, slots := 0, locals := 0 } : Room) #[.int (4 : Int32), .int (4 : Int32)] h (Ret1 fun v h' => v = .int 4 ∧ h = h') := by
  obtain ⟨hw, hEL, Sz, hz, SA, SH, SL, SF, hfm⟩ := id wd
  refine Con.intro (by decide +kernel) O hEL ?_
  intro p e s m below meth c T C hs P
  have C : Ctx Z a0 consts_1 p s m meth c "java/lang/Math" "min" jdk_29_method_69_code 2 (some .int) := C
  refine Run.cast (k_mn4_ef m) ?_
  refine blk C P [.iload_n 0, .iload_n 1] (by decide +kernel) (pc' := 2) (L' := [.val (.int (4 : Int32)), .val (.int (4 : Int32))]) (S' := [.int (4 : Int32), .int (4 : Int32)]) rfl ?_
  refine b_cmN C P (cd := .gt) (o := 7) (by decide +kernel) (pc' := 5) rfl (by decide : ¬ (4 : Int32) < (4 : Int32)) ?_
  refine blk C P [.iload_n 0] (by decide +kernel) (pc' := 6) (L' := [.val (.int (4 : Int32)), .val (.int (4 : Int32))]) (S' := [.int (4 : Int32)]) rfl ?_
  refine b_goto C P (o := 4) (by decide +kernel) (pc' := 10) (by decide) ?_
  exact r_int C P (ty := .int) (by simp) rfl (by decide +kernel) (le_ _ _ rfl) (le_ _ _ rfl) ⟨_, rfl, ⟨rfl, rfl⟩⟩
theorem k_ln4_ef (m : MethodId) (t : Addr) (x0 x1 x2 x3 : Int32) : entryFrame m #[.ref t] 1 = fr m 0 [.val (.ref t)] [] := by first | (simp [entryFrame, mkF, argsToLocals, Value.category]; done) | rfl
set_option maxRecDepth 65536 in
set_option maxHeartbeats 4000000 in
theorem k_ln4 (l : Launch) {Z : State} {a0 : Array Value} {n0 : Nat} {h : Heap} {z : Int32} {fm : Value} (wd : Wd Z a0 z fm) (t : Addr) (x0 x1 x2 x3 : Int32)  (O : Old Z n0 h) (B : Bys Z n0 h t (wide [x0, x1, x2, x3])) :
    Con l Z consts_1 n0 [] (⟨"java/lang/StringUTF16", "length", "([B)I"⟩ : MethodName) jdk_52_method_6_code 1 (some .int) ({ frames := 0, cells := 0, slots := 0, locals := 0 } : Room) #[.ref t] h (Ret1 fun v h' => v = .int 4 ∧ h = h') := by
  obtain ⟨hw, hEL, Sz, hz, SA, SH, SL, SF, hfm⟩ := id wd
  refine Con.intro (plainFor_of_name (by first | (simp [plainName, overriddenIn]; done) | decide +kernel)) O hEL ?_
  intro p e s m below meth c T C hs P
  have C : Ctx Z a0 consts_1 p s m meth c "java/lang/StringUTF16" "length" jdk_52_method_6_code 1 (some .int) := C
  refine Run.cast (k_ln4_ef m t x0 x1 x2 x3) ?_
  refine blk C P [.aload_n 0] (by decide +kernel) (pc' := 1) (L' := [.val (.ref t)]) (S' := [.ref t]) rfl ?_
  refine s_alenB C P 8 (by decide +kernel) B rfl (pc' := 2) rfl ?_
  refine blk C P [.iconst 1, .ishr] (by decide +kernel) (pc' := 4) (L' := [.val (.ref t)]) (S' := [.int (4 : Int32)]) rfl ?_
  exact r_int C P (ty := .int) (by simp) rfl (by decide +kernel) (le_ _ _ rfl) (le_ _ _ rfl) ⟨_, rfl, ⟨rfl, rfl⟩⟩
theorem k_cf4_ef (m : MethodId)  {fm : Value} (hfm : fm.isRef = true) : entryFrame m #[.int (0 : Int32), .int (4 : Int32), .int (4 : Int32), fm] 4 = fr m 0 [.val (.int (0 : Int32)), .val (.int (4 : Int32)), .val (.int (4 : Int32)), .val (fm)] [] := by rcases ref_cases hfm with rfl | ⟨q, rfl⟩ <;> first | (simp [entryFrame, mkF, argsToLocals, Value.category]; done) | rfl
set_option maxRecDepth 65536 in
set_option maxHeartbeats 4000000 in
theorem k_cf4 (l : Launch) {Z : State} {a0 : Array Value} {n0 : Nat} {h : Heap} {z : Int32} {fm : Value} (wd : Wd Z a0 z fm)   (O : Old Z n0 h)  :
    Con l Z consts_1 n0 [] (⟨"jdk/internal/util/Preconditions", "checkFromToIndex", "(IIILjava/util/function/BiFunction;)I"⟩ : MethodName) jdk_41_method_12_code 4 (some .int) ({ frames := 0, cells := 0, slots := 0, locals := 0 } : Room) #[.int (0 : Int32), .int (4 : Int32), .int (4 : Int32), fm] h (Ret1 fun v h' => v = .int 0 ∧ h = h') := by
  obtain ⟨hw, hEL, Sz, hz, SA, SH, SL, SF, hfm⟩ := id wd
  refine Con.intro (plainFor_of_name (by first | (simp [plainName, overriddenIn]; done) | decide +kernel)) O hEL ?_
  intro p e s m below meth c T C hs P
  have C : Ctx Z a0 consts_1 p s m meth c "jdk/internal/util/Preconditions" "checkFromToIndex" jdk_41_method_12_code 4 (some .int) := C
  refine Run.cast (k_cf4_ef m hfm) ?_
  refine blk C P [.iload_n 0] (by decide +kernel) (pc' := 1) (L' := [.val (.int (0 : Int32)), .val (.int (4 : Int32)), .val (.int (4 : Int32)), .val (fm)]) (S' := [.int (0 : Int32)]) rfl ?_
  refine b_ifN C P (cd := .lt) (o := 13) (by decide +kernel) (pc' := 4) rfl (by decide : ¬ (0 : Int32) < 0) ?_
  refine blk C P [.iload_n 0, .iload_n 1] (by decide +kernel) (pc' := 6) (L' := [.val (.int (0 : Int32)), .val (.int (4 : Int32)), .val (.int (4 : Int32)), .val (fm)]) (S' := [.int (4 : Int32), .int (0 : Int32)]) rfl ?_
  refine b_cmN C P (cd := .gt) (o := 8) (by decide +kernel) (pc' := 9) rfl (by decide : ¬ (4 : Int32) < (0 : Int32)) ?_
  refine blk C P [.iload_n 1, .iload_n 2] (by decide +kernel) (pc' := 11) (L' := [.val (.int (0 : Int32)), .val (.int (4 : Int32)), .val (.int (4 : Int32)), .val (fm)]) (S' := [.int (4 : Int32), .int (4 : Int32)]) rfl ?_
  refine b_cmY C P (cd := .le) (o := 11) (by decide +kernel) (pc' := 22) (by decide) (by decide : ¬ (4 : Int32) < (4 : Int32)) ?_
  refine blk C P [.iload_n 0] (by decide +kernel) (pc' := 23) (L' := [.val (.int (0 : Int32)), .val (.int (4 : Int32)), .val (.int (4 : Int32)), .val (fm)]) (S' := [.int (0 : Int32)]) rfl ?_
  exact r_int C P (ty := .int) (by simp) rfl (by decide +kernel) (le_ _ _ rfl) (le_ _ _ rfl) ⟨_, rfl, ⟨rfl, rfl⟩⟩
theorem k_sc4_ef (m : MethodId)  : entryFrame m #[.int (0 : Int32), .int (4 : Int32), .int (4 : Int32)] 3 = fr m 0 [.val (.int (0 : Int32)), .val (.int (4 : Int32)), .val (.int (4 : Int32))] [] := by first | (simp [entryFrame, mkF, argsToLocals, Value.category]; done) | rfl
set_option maxRecDepth 65536 in
set_option maxHeartbeats 4000000 in
theorem k_sc4 (l : Launch) {Z : State} {a0 : Array Value} {n0 : Nat} {h : Heap} {z : Int32} {fm : Value} (wd : Wd Z a0 z fm)   (O : Old Z n0 h)  :
    Con l Z consts_1 n0 [] (⟨"java/lang/String", "checkBoundsBeginEnd", "(III)V"⟩ : MethodName) jdk_42_method_158_code 3 none ({ frames := 1, cells := 0, slots := 0, locals := 15 } : Room) #[.int (0 : Int32), .int (4 : Int32), .int (4 : Int32)] h (Ret0 fun h' => h = h') := by
  obtain ⟨hw, hEL, Sz, hz, SA, SH, SL, SF, hfm⟩ := id wd
  refine Con.intro (plainFor_of_name (by first | (simp [plainName, overriddenIn]; done) | decide +kernel)) O hEL ?_
  intro p e s m below meth c T C hs P
  have C : Ctx Z a0 consts_1 p s m meth c "java/lang/String" "checkBoundsBeginEnd" jdk_42_method_158_code 3 none := C
  refine Run.cast (k_sc4_ef m) ?_
  refine blk C P [.iload_n 0, .iload_n 1, .iload_n 2] (by decide +kernel) (pc' := 3) (L' := [.val (.int (0 : Int32)), .val (.int (4 : Int32)), .val (.int (4 : Int32))]) (S' := [.int (4 : Int32), .int (4 : Int32), .int (0 : Int32)]) rfl ?_
  refine s_gets C P (idx := 1053) (by decide +kernel) (hw _ (List.mem_of_getElem? (i := 121) rfl)) SF (pc' := 6) rfl (fun T1 P1 => ?_)
  refine c_static C P1 (idx := 1062) (y := (⟨"jdk/internal/util/Preconditions", "checkFromToIndex", "(IIILjava/util/function/BiFunction;)I"⟩ : MethodName)) (ybytes := jdk_41_method_12_code) (ymax := 4) (yret := (some .int)) (yrm := ({ frames := 0, cells := 0, slots := 0, locals := 0 } : Room)) (by decide +kernel) (hw _ (List.mem_of_getElem? (i := 123) rfl)) (hw _ (List.mem_of_getElem? (i := 124) rfl)) (hw _ (List.mem_of_getElem? (i := 122) rfl)) (hw _ (List.mem_of_getElem? (i := 125) rfl)) (by decide) [.int (0 : Int32), .int (4 : Int32), .int (4 : Int32), fm] [] (k_cf4 l wd  P1.old ) (le_ _ _ rfl) (W := 0) (le_ _ _ rfl) (by decide +kernel : parseMethodDescriptor "(IIILjava/util/function/BiFunction;)I" = some ⟨[.int, .int, .int, (.object "java/util/function/BiFunction")], some .int⟩) rfl rfl rfl (le_ _ _ rfl) (le_ _ _ rfl) (le_ _ _ rfl) (pc' := 9) rfl (fun T2 h2 v2 P2 Q2 => ?_)
  replace P2 := P2.more (k' := 0) (n' := 0) (le_ _ _ rfl) (le_ _ _ rfl)
  obtain ⟨rfl, rfl⟩ := Q2
  refine blk C P2 [.pop] (by decide +kernel) (pc' := 10) (L' := [.val (.int (0 : Int32)), .val (.int (4 : Int32)), .val (.int (4 : Int32))]) (S' := []) rfl ?_
  exact r_void C P2 (by decide +kernel) (le_ _ _ rfl) (le_ _ _ rfl) ⟨rfl, rfl⟩
theorem k_cb4_ef (m : MethodId) (t : Addr) (x0 x1 x2 x3 : Int32) : entryFrame m #[.int (0 : Int32), .int (4 : Int32), .ref t] 3 = fr m 0 [.val (.int (0 : Int32)), .val (.int (4 : Int32)), .val (.ref t)] [] := by first | (simp [entryFrame, mkF, argsToLocals, Value.category]; done) | rfl
set_option maxRecDepth 65536 in
set_option maxHeartbeats 4000000 in
theorem k_cb4 (l : Launch) {Z : State} {a0 : Array Value} {n0 : Nat} {h : Heap} {z : Int32} {fm : Value} (wd : Wd Z a0 z fm) (t : Addr) (x0 x1 x2 x3 : Int32)  (O : Old Z n0 h) (B : Bys Z n0 h t (wide [x0, x1, x2, x3])) :
    Con l Z consts_1 n0 [] (⟨"java/lang/StringUTF16", "checkBoundsBeginEnd", "(II[B)V"⟩ : MethodName) jdk_52_method_93_code 3 none ({ frames := 2, cells := 0, slots := 0, locals := 29 } : Room) #[.int (0 : Int32), .int (4 : Int32), .ref t] h (Ret0 fun h' => h = h') := by
  obtain ⟨hw, hEL, Sz, hz, SA, SH, SL, SF, hfm⟩ := id wd
  refine Con.intro (plainFor_of_name (by first | (simp [plainName, overriddenIn]; done) | decide +kernel)) O hEL ?_
  intro p e s m below meth c T C hs P
  have C : Ctx Z a0 consts_1 p s m meth c "java/lang/StringUTF16" "checkBoundsBeginEnd" jdk_52_method_93_code 3 none := C
  refine Run.cast (k_cb4_ef m t x0 x1 x2 x3) ?_
  refine blk C P [.iload_n 0, .iload_n 1, .aload_n 2] (by decide +kernel) (pc' := 3) (L' := [.val (.int (0 : Int32)), .val (.int (4 : Int32)), .val (.ref t)]) (S' := [.ref t, .int (4 : Int32), .int (0 : Int32)]) rfl ?_
  refine c_static C P (idx := 48) (y := (⟨"java/lang/StringUTF16", "length", "([B)I"⟩ : MethodName)) (ybytes := jdk_52_method_6_code) (ymax := 1) (yret := (some .int)) (yrm := ({ frames := 0, cells := 0, slots := 0, locals := 0 } : Room)) (by decide +kernel) (hw _ (List.mem_of_getElem? (i := 115) rfl)) (hw _ (List.mem_of_getElem? (i := 116) rfl)) (hw _ (List.mem_of_getElem? (i := 71) rfl)) (hw _ (List.mem_of_getElem? (i := 117) rfl)) (by decide) [.ref t] [.int (4 : Int32), .int (0 : Int32)] (k_ln4 l wd t x0 x1 x2 x3 P.old B) (le_ _ _ rfl) (W := 2) (le_ _ _ rfl) (by decide +kernel : parseMethodDescriptor "([B)I" = some ⟨[(.array .byte)], some .int⟩) rfl rfl rfl (le_ _ _ rfl) (le_ _ _ rfl) (le_ _ _ rfl) (pc' := 6) rfl (fun T1 h1 v1 P1 Q1 => ?_)
  replace P1 := P1.more (k' := 0) (n' := 0) (le_ _ _ rfl) (le_ _ _ rfl)
  obtain ⟨rfl, rfl⟩ := Q1
  refine c_static0 C P1 (idx := 241) (y := (⟨"java/lang/String", "checkBoundsBeginEnd", "(III)V"⟩ : MethodName)) (ybytes := jdk_42_method_158_code) (ymax := 3) (yrm := ({ frames := 1, cells := 0, slots := 0, locals := 15 } : Room)) (by decide +kernel) (hw _ (List.mem_of_getElem? (i := 118) rfl)) (hw _ (List.mem_of_getElem? (i := 119) rfl)) (hw _ (List.mem_of_getElem? (i := 8) rfl)) (hw _ (List.mem_of_getElem? (i := 120) rfl)) (by decide) [.int (0 : Int32), .int (4 : Int32), .int (4 : Int32)] [] (k_sc4 l wd  P1.old ) (le_ _ _ rfl) (W := 0) (le_ _ _ rfl) (by decide +kernel : parseMethodDescriptor "(III)V" = some ⟨[.int, .int, .int], none⟩) rfl rfl rfl (le_ _ _ rfl) (le_ _ _ rfl) (le_ _ _ rfl) (pc' := 9) rfl (fun T2 h2 P2 Q2 => ?_)
  replace P2 := P2.more (k' := 0) (n' := 0) (le_ _ _ rfl) (le_ _ _ rfl)
  obtain rfl := Q2
  exact r_void C P2 (by decide +kernel) (le_ _ _ rfl) (le_ _ _ rfl) ⟨rfl, rfl⟩
theorem k_iu4_ef (m : MethodId) (t : Addr) (x0 x1 x2 x3 : Int32) : entryFrame m #[.ref t, .int (65533 : Int32), .int (0 : Int32), .int (4 : Int32)] 5 = fr m 0 [.val (.ref t), .val (.int (65533 : Int32)), .val (.int (0 : Int32)), .val (.int (4 : Int32)), .unset] [] := by first | (simp [entryFrame, mkF, argsToLocals, Value.category]; done) | rfl
set_option maxRecDepth 65536 in
set_option maxHeartbeats 4000000 in
theorem k_iu4 (l : Launch) {Z : State} {a0 : Array Value} {n0 : Nat} {h : Heap} {z : Int32} {fm : Value} (wd : Wd Z a0 z fm) (t : Addr) (x0 x1 x2 x3 : Int32)  (O : Old Z n0 h) (B : Bys Z n0 h t (wide [x0, x1, x2, x3])) (i0 : c16 x0 = x0) (i1 : c16 x1 = x1) (i2 : c16 x2 = x2) (i3 : c16 x3 = x3) :
    Con l Z consts_1 n0 [] (⟨"java/lang/StringUTF16", "indexOfCharUnsafe", "([BIII)I"⟩ : MethodName) jdk_52_method_48_code 5 (some .int) ({ frames := 1, cells := 0, slots := 0, locals := 13 } : Room) #[.ref t, .int (65533 : Int32), .int (0 : Int32), .int (4 : Int32)] h (Ret1 fun v h' => ∃ w, v = .int w ∧ h = h' ∧ ((¬ w < 0 ∧ Lost [x0, x1, x2, x3]) ∨ (w < 0 ∧ ¬ Lost [x0, x1, x2, x3]))) := by
  obtain ⟨hw, hEL, Sz, hz, SA, SH, SL, SF, hfm⟩ := id wd
  refine Con.intro (plainFor_of_name (by first | (simp [plainName, overriddenIn]; done) | decide +kernel)) O hEL ?_
  intro p e s m below meth c T C hs P
  have C : Ctx Z a0 consts_1 p s m meth c "java/lang/StringUTF16" "indexOfCharUnsafe" jdk_52_method_48_code 5 (some .int) := C
  refine Run.cast (k_iu4_ef m t x0 x1 x2 x3) ?_
  refine blk C P [.iload_n 2, .istore 4, .iload 4, .iload_n 3] (by decide +kernel) (pc' := 6) (L' := [.val (.ref t), .val (.int (65533 : Int32)), .val (.int (0 : Int32)), .val (.int (4 : Int32)), .val (.int (0 : Int32))]) (S' := [.int (4 : Int32), .int (0 : Int32)]) rfl ?_
  refine b_cmN C P (cd := .ge) (o := 22) (by decide +kernel) (pc' := 9) rfl (by decide : (0 : Int32) < (4 : Int32)) ?_
  refine blk C P [.aload_n 0, .iload 4] (by decide +kernel) (pc' := 12) (L' := [.val (.ref t), .val (.int (65533 : Int32)), .val (.int (0 : Int32)), .val (.int (4 : Int32)), .val (.int (0 : Int32))]) (S' := [.int (0 : Int32), .ref t]) rfl ?_
  refine c_static C P (idx := 71) (y := (⟨"java/lang/StringUTF16", "getChar", "([BI)C"⟩ : MethodName)) (ybytes := jdk_52_method_5_code) (ymax := 2) (yret := (some .char)) (yrm := ({ frames := 0, cells := 0, slots := 0, locals := 0 } : Room)) (by decide +kernel) (hw _ (List.mem_of_getElem? (i := 92) rfl)) (hw _ (List.mem_of_getElem? (i := 93) rfl)) (hw _ (List.mem_of_getElem? (i := 71) rfl)) (hw _ (List.mem_of_getElem? (i := 94) rfl)) (by decide) [.ref t, .int (0 : Int32)] [] (k_gc0 l wd t x0 P.old B rfl rfl i0) (le_ _ _ rfl) (W := 0) (le_ _ _ rfl) (by decide +kernel : parseMethodDescriptor "([BI)C" = some ⟨[(.array .byte), .int], some .char⟩) rfl rfl rfl (le_ _ _ rfl) (le_ _ _ rfl) (le_ _ _ rfl) (pc' := 15) rfl (fun T1 h1 v1 P1 Q1 => ?_)
  replace P1 := P1.more (k' := 0) (n' := 0) (le_ _ _ rfl) (le_ _ _ rfl)
  obtain ⟨rfl, rfl⟩ := Q1
  refine blk C P1 [.iload_n 1] (by decide +kernel) (pc' := 16) (L' := [.val (.ref t), .val (.int (65533 : Int32)), .val (.int (0 : Int32)), .val (.int (4 : Int32)), .val (.int (0 : Int32))]) (S' := [.int (65533 : Int32), .int x0]) rfl ?_
  refine b_cm C P1 (cd := .ne) (o := 6) (by decide +kernel) (pc' := 22) (by decide) (pn := 19) rfl (fun (q2 : ¬ x0 = (65533 : Int32)) => ?_) (fun (q2 : x0 = (65533 : Int32)) => ?_)
  · skip
    refine blk C P1 [.iinc 4 1] (by decide +kernel) (pc' := 25) (L' := [.val (.ref t), .val (.int (65533 : Int32)), .val (.int (0 : Int32)), .val (.int (4 : Int32)), .val (.int (1 : Int32))]) (S' := []) rfl ?_
    refine b_goto C P1 (o := -22) (by decide +kernel) (pc' := 3) (by decide) ?_
    refine blk C P1 [.iload 4, .iload_n 3] (by decide +kernel) (pc' := 6) (L' := [.val (.ref t), .val (.int (65533 : Int32)), .val (.int (0 : Int32)), .val (.int (4 : Int32)), .val (.int (1 : Int32))]) (S' := [.int (4 : Int32), .int (1 : Int32)]) rfl ?_
    refine b_cmN C P1 (cd := .ge) (o := 22) (by decide +kernel) (pc' := 9) rfl (by decide : (1 : Int32) < (4 : Int32)) ?_
    refine blk C P1 [.aload_n 0, .iload 4] (by decide +kernel) (pc' := 12) (L' := [.val (.ref t), .val (.int (65533 : Int32)), .val (.int (0 : Int32)), .val (.int (4 : Int32)), .val (.int (1 : Int32))]) (S' := [.int (1 : Int32), .ref t]) rfl ?_
    refine c_static C P1 (idx := 71) (y := (⟨"java/lang/StringUTF16", "getChar", "([BI)C"⟩ : MethodName)) (ybytes := jdk_52_method_5_code) (ymax := 2) (yret := (some .char)) (yrm := ({ frames := 0, cells := 0, slots := 0, locals := 0 } : Room)) (by decide +kernel) (hw _ (List.mem_of_getElem? (i := 92) rfl)) (hw _ (List.mem_of_getElem? (i := 93) rfl)) (hw _ (List.mem_of_getElem? (i := 71) rfl)) (hw _ (List.mem_of_getElem? (i := 94) rfl)) (by decide) [.ref t, .int (1 : Int32)] [] (k_gc1 l wd t x1 P1.old B rfl rfl i1) (le_ _ _ rfl) (W := 0) (le_ _ _ rfl) (by decide +kernel : parseMethodDescriptor "([BI)C" = some ⟨[(.array .byte), .int], some .char⟩) rfl rfl rfl (le_ _ _ rfl) (le_ _ _ rfl) (le_ _ _ rfl) (pc' := 15) rfl (fun T3 h3 v3 P3 Q3 => ?_)
    replace P3 := P3.more (k' := 0) (n' := 0) (le_ _ _ rfl) (le_ _ _ rfl)
    obtain ⟨rfl, rfl⟩ := Q3
    refine blk C P3 [.iload_n 1] (by decide +kernel) (pc' := 16) (L' := [.val (.ref t), .val (.int (65533 : Int32)), .val (.int (0 : Int32)), .val (.int (4 : Int32)), .val (.int (1 : Int32))]) (S' := [.int (65533 : Int32), .int x1]) rfl ?_
    refine b_cm C P3 (cd := .ne) (o := 6) (by decide +kernel) (pc' := 22) (by decide) (pn := 19) rfl (fun (q4 : ¬ x1 = (65533 : Int32)) => ?_) (fun (q4 : x1 = (65533 : Int32)) => ?_)
    · skip
      refine blk C P3 [.iinc 4 1] (by decide +kernel) (pc' := 25) (L' := [.val (.ref t), .val (.int (65533 : Int32)), .val (.int (0 : Int32)), .val (.int (4 : Int32)), .val (.int (2 : Int32))]) (S' := []) rfl ?_
      refine b_goto C P3 (o := -22) (by decide +kernel) (pc' := 3) (by decide) ?_
      refine blk C P3 [.iload 4, .iload_n 3] (by decide +kernel) (pc' := 6) (L' := [.val (.ref t), .val (.int (65533 : Int32)), .val (.int (0 : Int32)), .val (.int (4 : Int32)), .val (.int (2 : Int32))]) (S' := [.int (4 : Int32), .int (2 : Int32)]) rfl ?_
      refine b_cmN C P3 (cd := .ge) (o := 22) (by decide +kernel) (pc' := 9) rfl (by decide : (2 : Int32) < (4 : Int32)) ?_
      refine blk C P3 [.aload_n 0, .iload 4] (by decide +kernel) (pc' := 12) (L' := [.val (.ref t), .val (.int (65533 : Int32)), .val (.int (0 : Int32)), .val (.int (4 : Int32)), .val (.int (2 : Int32))]) (S' := [.int (2 : Int32), .ref t]) rfl ?_
      refine c_static C P3 (idx := 71) (y := (⟨"java/lang/StringUTF16", "getChar", "([BI)C"⟩ : MethodName)) (ybytes := jdk_52_method_5_code) (ymax := 2) (yret := (some .char)) (yrm := ({ frames := 0, cells := 0, slots := 0, locals := 0 } : Room)) (by decide +kernel) (hw _ (List.mem_of_getElem? (i := 92) rfl)) (hw _ (List.mem_of_getElem? (i := 93) rfl)) (hw _ (List.mem_of_getElem? (i := 71) rfl)) (hw _ (List.mem_of_getElem? (i := 94) rfl)) (by decide) [.ref t, .int (2 : Int32)] [] (k_gc2 l wd t x2 P3.old B rfl rfl i2) (le_ _ _ rfl) (W := 0) (le_ _ _ rfl) (by decide +kernel : parseMethodDescriptor "([BI)C" = some ⟨[(.array .byte), .int], some .char⟩) rfl rfl rfl (le_ _ _ rfl) (le_ _ _ rfl) (le_ _ _ rfl) (pc' := 15) rfl (fun T5 h5 v5 P5 Q5 => ?_)
      replace P5 := P5.more (k' := 0) (n' := 0) (le_ _ _ rfl) (le_ _ _ rfl)
      obtain ⟨rfl, rfl⟩ := Q5
      refine blk C P5 [.iload_n 1] (by decide +kernel) (pc' := 16) (L' := [.val (.ref t), .val (.int (65533 : Int32)), .val (.int (0 : Int32)), .val (.int (4 : Int32)), .val (.int (2 : Int32))]) (S' := [.int (65533 : Int32), .int x2]) rfl ?_
      refine b_cm C P5 (cd := .ne) (o := 6) (by decide +kernel) (pc' := 22) (by decide) (pn := 19) rfl (fun (q6 : ¬ x2 = (65533 : Int32)) => ?_) (fun (q6 : x2 = (65533 : Int32)) => ?_)
      · skip
        refine blk C P5 [.iinc 4 1] (by decide +kernel) (pc' := 25) (L' := [.val (.ref t), .val (.int (65533 : Int32)), .val (.int (0 : Int32)), .val (.int (4 : Int32)), .val (.int (3 : Int32))]) (S' := []) rfl ?_
        refine b_goto C P5 (o := -22) (by decide +kernel) (pc' := 3) (by decide) ?_
        refine blk C P5 [.iload 4, .iload_n 3] (by decide +kernel) (pc' := 6) (L' := [.val (.ref t), .val (.int (65533 : Int32)), .val (.int (0 : Int32)), .val (.int (4 : Int32)), .val (.int (3 : Int32))]) (S' := [.int (4 : Int32), .int (3 : Int32)]) rfl ?_
        refine b_cmN C P5 (cd := .ge) (o := 22) (by decide +kernel) (pc' := 9) rfl (by decide : (3 : Int32) < (4 : Int32)) ?_
        refine blk C P5 [.aload_n 0, .iload 4] (by decide +kernel) (pc' := 12) (L' := [.val (.ref t), .val (.int (65533 : Int32)), .val (.int (0 : Int32)), .val (.int (4 : Int32)), .val (.int (3 : Int32))]) (S' := [.int (3 : Int32), .ref t]) rfl ?_
        refine c_static C P5 (idx := 71) (y := (⟨"java/lang/StringUTF16", "getChar", "([BI)C"⟩ : MethodName)) (ybytes := jdk_52_method_5_code) (ymax := 2) (yret := (some .char)) (yrm := ({ frames := 0, cells := 0, slots := 0, locals := 0 } : Room)) (by decide +kernel) (hw _ (List.mem_of_getElem? (i := 92) rfl)) (hw _ (List.mem_of_getElem? (i := 93) rfl)) (hw _ (List.mem_of_getElem? (i := 71) rfl)) (hw _ (List.mem_of_getElem? (i := 94) rfl)) (by decide) [.ref t, .int (3 : Int32)] [] (k_gc3 l wd t x3 P5.old B rfl rfl i3) (le_ _ _ rfl) (W := 0) (le_ _ _ rfl) (by decide +kernel : parseMethodDescriptor "([BI)C" = some ⟨[(.array .byte), .int], some .char⟩) rfl rfl rfl (le_ _ _ rfl) (le_ _ _ rfl) (le_ _ _ rfl) (pc' := 15) rfl (fun T7 h7 v7 P7 Q7 => ?_)
        replace P7 := P7.more (k' := 0) (n' := 0) (le_ _ _ rfl) (le_ _ _ rfl)
        obtain ⟨rfl, rfl⟩ := Q7
        refine blk C P7 [.iload_n 1] (by decide +kernel) (pc' := 16) (L' := [.val (.ref t), .val (.int (65533 : Int32)), .val (.int (0 : Int32)), .val (.int (4 : Int32)), .val (.int (3 : Int32))]) (S' := [.int (65533 : Int32), .int x3]) rfl ?_
        refine b_cm C P7 (cd := .ne) (o := 6) (by decide +kernel) (pc' := 22) (by decide) (pn := 19) rfl (fun (q8 : ¬ x3 = (65533 : Int32)) => ?_) (fun (q8 : x3 = (65533 : Int32)) => ?_)
        · skip
          refine blk C P7 [.iinc 4 1] (by decide +kernel) (pc' := 25) (L' := [.val (.ref t), .val (.int (65533 : Int32)), .val (.int (0 : Int32)), .val (.int (4 : Int32)), .val (.int (4 : Int32))]) (S' := []) rfl ?_
          refine b_goto C P7 (o := -22) (by decide +kernel) (pc' := 3) (by decide) ?_
          refine blk C P7 [.iload 4, .iload_n 3] (by decide +kernel) (pc' := 6) (L' := [.val (.ref t), .val (.int (65533 : Int32)), .val (.int (0 : Int32)), .val (.int (4 : Int32)), .val (.int (4 : Int32))]) (S' := [.int (4 : Int32), .int (4 : Int32)]) rfl ?_
          refine b_cmY C P7 (cd := .ge) (o := 22) (by decide +kernel) (pc' := 28) (by decide) (by decide : ¬ (4 : Int32) < (4 : Int32)) ?_
          refine blk C P7 [.iconst (-1)] (by decide +kernel) (pc' := 29) (L' := [.val (.ref t), .val (.int (65533 : Int32)), .val (.int (0 : Int32)), .val (.int (4 : Int32)), .val (.int (4 : Int32))]) (S' := [.int (-1 : Int32)]) rfl ?_
          exact r_int C P7 (ty := .int) (by simp) rfl (by decide +kernel) (le_ _ _ rfl) (le_ _ _ rfl) ⟨_, rfl, ⟨_, rfl, rfl, Or.inr ⟨by decide, (lostN q2 (lostN q4 (lostN q6 (lostN q8 lost0))))⟩⟩⟩
        · skip
          refine blk C P7 [.iload 4] (by decide +kernel) (pc' := 21) (L' := [.val (.ref t), .val (.int (65533 : Int32)), .val (.int (0 : Int32)), .val (.int (4 : Int32)), .val (.int (3 : Int32))]) (S' := [.int (3 : Int32)]) rfl ?_
          exact r_int C P7 (ty := .int) (by simp) rfl (by decide +kernel) (le_ _ _ rfl) (le_ _ _ rfl) ⟨_, rfl, ⟨_, rfl, rfl, Or.inl ⟨by decide, (lostS (lostS (lostS (lostY q8))))⟩⟩⟩
      · skip
        refine blk C P5 [.iload 4] (by decide +kernel) (pc' := 21) (L' := [.val (.ref t), .val (.int (65533 : Int32)), .val (.int (0 : Int32)), .val (.int (4 : Int32)), .val (.int (2 : Int32))]) (S' := [.int (2 : Int32)]) rfl ?_
        exact r_int C P5 (ty := .int) (by simp) rfl (by decide +kernel) (le_ _ _ rfl) (le_ _ _ rfl) ⟨_, rfl, ⟨_, rfl, rfl, Or.inl ⟨by decide, (lostS (lostS (lostY q6)))⟩⟩⟩
    · skip
      refine blk C P3 [.iload 4] (by decide +kernel) (pc' := 21) (L' := [.val (.ref t), .val (.int (65533 : Int32)), .val (.int (0 : Int32)), .val (.int (4 : Int32)), .val (.int (1 : Int32))]) (S' := [.int (1 : Int32)]) rfl ?_
      exact r_int C P3 (ty := .int) (by simp) rfl (by decide +kernel) (le_ _ _ rfl) (le_ _ _ rfl) ⟨_, rfl, ⟨_, rfl, rfl, Or.inl ⟨by decide, (lostS (lostY q4))⟩⟩⟩
  · skip
    refine blk C P1 [.iload 4] (by decide +kernel) (pc' := 21) (L' := [.val (.ref t), .val (.int (65533 : Int32)), .val (.int (0 : Int32)), .val (.int (4 : Int32)), .val (.int (0 : Int32))]) (S' := [.int (0 : Int32)]) rfl ?_
    exact r_int C P1 (ty := .int) (by simp) rfl (by decide +kernel) (le_ _ _ rfl) (le_ _ _ rfl) ⟨_, rfl, ⟨_, rfl, rfl, Or.inl ⟨by decide, (lostY q2)⟩⟩⟩
theorem k_ic4_ef (m : MethodId) (t : Addr) (x0 x1 x2 x3 : Int32) : entryFrame m #[.ref t, .int (65533 : Int32), .int (0 : Int32), .int (4 : Int32)] 4 = fr m 0 [.val (.ref t), .val (.int (65533 : Int32)), .val (.int (0 : Int32)), .val (.int (4 : Int32))] [] := by first | (simp [entryFrame, mkF, argsToLocals, Value.category]; done) | rfl
set_option maxRecDepth 65536 in
set_option maxHeartbeats 4000000 in
theorem k_ic4 (l : Launch) {Z : State} {a0 : Array Value} {n0 : Nat} {h : Heap} {z : Int32} {fm : Value} (wd : Wd Z a0 z fm) (t : Addr) (x0 x1 x2 x3 : Int32)  (O : Old Z n0 h) (B : Bys Z n0 h t (wide [x0, x1, x2, x3])) (i0 : c16 x0 = x0) (i1 : c16 x1 = x1) (i2 : c16 x2 = x2) (i3 : c16 x3 = x3) :
    Con l Z consts_1 n0 [] (⟨"java/lang/StringUTF16", "indexOfChar", "([BIII)I"⟩ : MethodName) jdk_52_method_47_code 4 (some .int) ({ frames := 3, cells := 0, slots := 0, locals := 43 } : Room) #[.ref t, .int (65533 : Int32), .int (0 : Int32), .int (4 : Int32)] h (Ret1 fun v h' => ∃ w, v = .int w ∧ h = h' ∧ ((¬ w < 0 ∧ Lost [x0, x1, x2, x3]) ∨ (w < 0 ∧ ¬ Lost [x0, x1, x2, x3]))) := by
  obtain ⟨hw, hEL, Sz, hz, SA, SH, SL, SF, hfm⟩ := id wd
  refine Con.intro (plainFor_of_name (by first | (simp [plainName, overriddenIn]; done) | decide +kernel)) O hEL ?_
  intro p e s m below meth c T C hs P
  have C : Ctx Z a0 consts_1 p s m meth c "java/lang/StringUTF16" "indexOfChar" jdk_52_method_47_code 4 (some .int) := C
  refine Run.cast (k_ic4_ef m t x0 x1 x2 x3) ?_
  refine blk C P [.iload_n 2, .iload_n 3, .aload_n 0] (by decide +kernel) (pc' := 3) (L' := [.val (.ref t), .val (.int (65533 : Int32)), .val (.int (0 : Int32)), .val (.int (4 : Int32))]) (S' := [.ref t, .int (4 : Int32), .int (0 : Int32)]) rfl ?_
  refine c_static0 C P (idx := 96) (y := (⟨"java/lang/StringUTF16", "checkBoundsBeginEnd", "(II[B)V"⟩ : MethodName)) (ybytes := jdk_52_method_93_code) (ymax := 3) (yrm := ({ frames := 2, cells := 0, slots := 0, locals := 29 } : Room)) (by decide +kernel) (hw _ (List.mem_of_getElem? (i := 112) rfl)) (hw _ (List.mem_of_getElem? (i := 113) rfl)) (hw _ (List.mem_of_getElem? (i := 71) rfl)) (hw _ (List.mem_of_getElem? (i := 114) rfl)) (by decide) [.int (0 : Int32), .int (4 : Int32), .ref t] [] (k_cb4 l wd t x0 x1 x2 x3 P.old B) (le_ _ _ rfl) (W := 0) (le_ _ _ rfl) (by decide +kernel : parseMethodDescriptor "(II[B)V" = some ⟨[.int, .int, (.array .byte)], none⟩) rfl rfl rfl (le_ _ _ rfl) (le_ _ _ rfl) (le_ _ _ rfl) (pc' := 6) rfl (fun T1 h1 P1 Q1 => ?_)
  replace P1 := P1.more (k' := 0) (n' := 0) (le_ _ _ rfl) (le_ _ _ rfl)
  obtain rfl := Q1
  refine blk C P1 [.aload_n 0, .iload_n 1, .iload_n 2, .iload_n 3] (by decide +kernel) (pc' := 10) (L' := [.val (.ref t), .val (.int (65533 : Int32)), .val (.int (0 : Int32)), .val (.int (4 : Int32))]) (S' := [.int (4 : Int32), .int (0 : Int32), .int (65533 : Int32), .ref t]) rfl ?_
  refine c_static C P1 (idx := 244) (y := (⟨"java/lang/StringUTF16", "indexOfCharUnsafe", "([BIII)I"⟩ : MethodName)) (ybytes := jdk_52_method_48_code) (ymax := 5) (yret := (some .int)) (yrm := ({ frames := 1, cells := 0, slots := 0, locals := 13 } : Room)) (by decide +kernel) (hw _ (List.mem_of_getElem? (i := 126) rfl)) (hw _ (List.mem_of_getElem? (i := 127) rfl)) (hw _ (List.mem_of_getElem? (i := 71) rfl)) (hw _ (List.mem_of_getElem? (i := 128) rfl)) (by decide) [.ref t, .int (65533 : Int32), .int (0 : Int32), .int (4 : Int32)] [] (k_iu4 l wd t x0 x1 x2 x3 P1.old B i0 i1 i2 i3) (le_ _ _ rfl) (W := 0) (le_ _ _ rfl) (by decide +kernel : parseMethodDescriptor "([BIII)I" = some ⟨[(.array .byte), .int, .int, .int], some .int⟩) rfl rfl rfl (le_ _ _ rfl) (le_ _ _ rfl) (le_ _ _ rfl) (pc' := 13) rfl (fun T2 h2 v2 P2 Q2 => ?_)
  replace P2 := P2.more (k' := 0) (n' := 0) (le_ _ _ rfl) (le_ _ _ rfl)
  obtain ⟨w2, rfl, rfl, Q2⟩ := Q2
  exact r_int C P2 (ty := .int) (by simp) rfl (by decide +kernel) (le_ _ _ rfl) (le_ _ _ rfl) ⟨_, rfl, ⟨_, rfl, rfl, Q2⟩⟩
theorem k_io4_ef (m : MethodId) (t : Addr) (x0 x1 x2 x3 : Int32) : entryFrame m #[.ref t, .int (65533 : Int32), .int (0 : Int32), .int (4 : Int32)] 4 = fr m 0 [.val (.ref t), .val (.int (65533 : Int32)), .val (.int (0 : Int32)), .val (.int (4 : Int32))] [] := by first | (simp [entryFrame, mkF, argsToLocals, Value.category]; done) | rfl
set_option maxRecDepth 65536 in
set_option maxHeartbeats 4000000 in
theorem k_io4 (l : Launch) {Z : State} {a0 : Array Value} {n0 : Nat} {h : Heap} {z : Int32} {fm : Value} (wd : Wd Z a0 z fm) (t : Addr) (x0 x1 x2 x3 : Int32)  (O : Old Z n0 h) (B : Bys Z n0 h t (wide [x0, x1, x2, x3])) (i0 : c16 x0 = x0) (i1 : c16 x1 = x1) (i2 : c16 x2 = x2) (i3 : c16 x3 = x3) :
    Con l Z consts_1 n0 [] (⟨"java/lang/StringUTF16", "indexOf", "([BIII)I"⟩ : MethodName) jdk_52_method_40_code 4 (some .int) ({ frames := 4, cells := 0, slots := 0, locals := 58 } : Room) #[.ref t, .int (65533 : Int32), .int (0 : Int32), .int (4 : Int32)] h (Ret1 fun v h' => ∃ w, v = .int w ∧ h = h' ∧ ((¬ w < 0 ∧ Lost [x0, x1, x2, x3]) ∨ (w < 0 ∧ ¬ Lost [x0, x1, x2, x3]))) := by
  obtain ⟨hw, hEL, Sz, hz, SA, SH, SL, SF, hfm⟩ := id wd
  refine Con.intro (plainFor_of_name (by first | (simp [plainName, overriddenIn]; done) | decide +kernel)) O hEL ?_
  intro p e s m below meth c T C hs P
  have C : Ctx Z a0 consts_1 p s m meth c "java/lang/StringUTF16" "indexOf" jdk_52_method_40_code 4 (some .int) := C
  refine Run.cast (k_io4_ef m t x0 x1 x2 x3) ?_
  refine blk C P [.iload_n 2, .iconst 0] (by decide +kernel) (pc' := 2) (L' := [.val (.ref t), .val (.int (65533 : Int32)), .val (.int (0 : Int32)), .val (.int (4 : Int32))]) (S' := [.int (0 : Int32), .int (0 : Int32)]) rfl ?_
  refine c_static C P (idx := 224) (y := (⟨"java/lang/Math", "max", "(II)I"⟩ : MethodName)) (ybytes := jdk_29_method_65_code) (ymax := 2) (yret := (some .int)) (yrm := ({ frames := 0, cells := 0, slots := 0, locals := 0 } : Room)) (by decide +kernel) (hw _ (List.mem_of_getElem? (i := 101) rfl)) (hw _ (List.mem_of_getElem? (i := 102) rfl)) (hw _ (List.mem_of_getElem? (i := 103) rfl)) (hw _ (List.mem_of_getElem? (i := 104) rfl)) (by decide) [.int (0 : Int32), .int (0 : Int32)] [] (k_mx l wd  P.old ) (le_ _ _ rfl) (W := 0) (le_ _ _ rfl) (by decide +kernel : parseMethodDescriptor "(II)I" = some ⟨[.int, .int], some .int⟩) rfl rfl rfl (le_ _ _ rfl) (le_ _ _ rfl) (le_ _ _ rfl) (pc' := 5) rfl (fun T1 h1 v1 P1 Q1 => ?_)
  replace P1 := P1.more (k' := 0) (n' := 0) (le_ _ _ rfl) (le_ _ _ rfl)
  obtain ⟨rfl, rfl⟩ := Q1
  refine blk C P1 [.istore_n 2, .iload_n 3, .aload_n 0] (by decide +kernel) (pc' := 8) (L' := [.val (.ref t), .val (.int (65533 : Int32)), .val (.int (0 : Int32)), .val (.int (4 : Int32))]) (S' := [.ref t, .int (4 : Int32)]) rfl ?_
  refine s_alenB C P1 8 (by decide +kernel) B rfl (pc' := 9) rfl ?_
  refine blk C P1 [.iconst 1, .ishr] (by decide +kernel) (pc' := 11) (L' := [.val (.ref t), .val (.int (65533 : Int32)), .val (.int (0 : Int32)), .val (.int (4 : Int32))]) (S' := [.int (4 : Int32), .int (4 : Int32)]) rfl ?_
  refine c_static C P1 (idx := 183) (y := (⟨"java/lang/Math", "min", "(II)I"⟩ : MethodName)) (ybytes := jdk_29_method_69_code) (ymax := 2) (yret := (some .int)) (yrm := ({ frames := 0, cells := 0, slots := 0, locals := 0 } : Room)) (by decide +kernel) (hw _ (List.mem_of_getElem? (i := 105) rfl)) (hw _ (List.mem_of_getElem? (i := 106) rfl)) (hw _ (List.mem_of_getElem? (i := 103) rfl)) (hw _ (List.mem_of_getElem? (i := 107) rfl)) (by decide) [.int (4 : Int32), .int (4 : Int32)] [] (k_mn4 l wd  P1.old ) (le_ _ _ rfl) (W := 0) (le_ _ _ rfl) (by decide +kernel : parseMethodDescriptor "(II)I" = some ⟨[.int, .int], some .int⟩) rfl rfl rfl (le_ _ _ rfl) (le_ _ _ rfl) (le_ _ _ rfl) (pc' := 14) rfl (fun T2 h2 v2 P2 Q2 => ?_)
  replace P2 := P2.more (k' := 0) (n' := 0) (le_ _ _ rfl) (le_ _ _ rfl)
  obtain ⟨rfl, rfl⟩ := Q2
  refine blk C P2 [.istore_n 3, .iload_n 2, .iload_n 3] (by decide +kernel) (pc' := 17) (L' := [.val (.ref t), .val (.int (65533 : Int32)), .val (.int (0 : Int32)), .val (.int (4 : Int32))]) (S' := [.int (4 : Int32), .int (0 : Int32)]) rfl ?_
  refine b_cmY C P2 (cd := .lt) (o := 5) (by decide +kernel) (pc' := 22) (by decide) (by decide : (0 : Int32) < (4 : Int32)) ?_
  refine blk C P2 [.iload_n 1] (by decide +kernel) (pc' := 23) (L' := [.val (.ref t), .val (.int (65533 : Int32)), .val (.int (0 : Int32)), .val (.int (4 : Int32))]) (S' := [.int (65533 : Int32)]) rfl ?_
  refine s_ldcI C P2 (idx := 227) (by decide +kernel) (hw _ (List.mem_of_getElem? (i := 108) rfl)) (pc' := 25) rfl ?_
  refine b_cmN C P2 (cd := .ge) (o := 11) (by decide +kernel) (pc' := 28) rfl (by decide : (65533 : Int32) < (65536 : Int32)) ?_
  refine blk C P2 [.aload_n 0, .iload_n 1, .iload_n 2, .iload_n 3] (by decide +kernel) (pc' := 32) (L' := [.val (.ref t), .val (.int (65533 : Int32)), .val (.int (0 : Int32)), .val (.int (4 : Int32))]) (S' := [.int (4 : Int32), .int (0 : Int32), .int (65533 : Int32), .ref t]) rfl ?_
  refine c_static C P2 (idx := 228) (y := (⟨"java/lang/StringUTF16", "indexOfChar", "([BIII)I"⟩ : MethodName)) (ybytes := jdk_52_method_47_code) (ymax := 4) (yret := (some .int)) (yrm := ({ frames := 3, cells := 0, slots := 0, locals := 43 } : Room)) (by decide +kernel) (hw _ (List.mem_of_getElem? (i := 109) rfl)) (hw _ (List.mem_of_getElem? (i := 110) rfl)) (hw _ (List.mem_of_getElem? (i := 71) rfl)) (hw _ (List.mem_of_getElem? (i := 111) rfl)) (by decide) [.ref t, .int (65533 : Int32), .int (0 : Int32), .int (4 : Int32)] [] (k_ic4 l wd t x0 x1 x2 x3 P2.old B i0 i1 i2 i3) (le_ _ _ rfl) (W := 0) (le_ _ _ rfl) (by decide +kernel : parseMethodDescriptor "([BIII)I" = some ⟨[(.array .byte), .int, .int, .int], some .int⟩) rfl rfl rfl (le_ _ _ rfl) (le_ _ _ rfl) (le_ _ _ rfl) (pc' := 35) rfl (fun T3 h3 v3 P3 Q3 => ?_)
  replace P3 := P3.more (k' := 0) (n' := 0) (le_ _ _ rfl) (le_ _ _ rfl)
  obtain ⟨w3, rfl, rfl, Q3⟩ := Q3
  exact r_int C P3 (ty := .int) (by simp) rfl (by decide +kernel) (le_ _ _ rfl) (le_ _ _ rfl) ⟨_, rfl, ⟨_, rfl, rfl, Q3⟩⟩
theorem k_sw4_ef (m : MethodId) (a : Addr) (x0 x1 x2 x3 : Int32) : entryFrame m #[.ref a] 1 = fr m 0 [.val (.ref a)] [] := by first | (simp [entryFrame, mkF, argsToLocals, Value.category]; done) | rfl
set_option maxRecDepth 65536 in
set_option maxHeartbeats 4000000 in
theorem k_sw4 (l : Launch) {Z : State} {a0 : Array Value} {n0 : Nat} {h : Heap} {z : Int32} {fm : Value} (wd : Wd Z a0 z fm) (a : Addr) (x0 x1 x2 x3 : Int32)  (O : Old Z n0 h) (S : Str16 Z n0 h a [x0, x1, x2, x3]) :
    Con l Z consts_1 n0 [] (⟨"java/lang/String", "length", "()I"⟩ : MethodName) jdk_42_method_54_code 1 (some .int) ({ frames := 1, cells := 0, slots := 0, locals := 13 } : Room) #[.ref a] h (Ret1 fun v h' => v = .int 4 ∧ h = h') := by
  obtain ⟨hw, hEL, Sz, hz, SA, SH, SL, SF, hfm⟩ := id wd
  obtain ⟨S1, S2, t, S3, S4⟩ := id S
  refine Con.intro (plainFor_of_name (by first | (simp [plainName, overriddenIn]; done) | decide +kernel)) O hEL ?_
  intro p e s m below meth c T C hs P
  have C : Ctx Z a0 consts_1 p s m meth c "java/lang/String" "length" jdk_42_method_54_code 1 (some .int) := C
  refine Run.cast (k_sw4_ef m a x0 x1 x2 x3) ?_
  refine blk C P [.aload_n 0] (by decide +kernel) (pc' := 1) (L' := [.val (.ref a)]) (S' := [.ref a]) rfl ?_
  refine s_getf C P (idx := 9) (by decide +kernel) (hw _ (List.mem_of_getElem? (i := 29) rfl)) S3 (pc' := 4) rfl (fun T1 P1 => ?_)
  refine s_alenB C P1 8 (by decide +kernel) S4 rfl (pc' := 5) rfl ?_
  refine blk C P1 [.aload_n 0] (by decide +kernel) (pc' := 6) (L' := [.val (.ref a)]) (S' := [.ref a, .int (8 : Int32)]) rfl ?_
  refine c_virtual C P1 (idx := 335) (y := (⟨"java/lang/String", "coder", "()B"⟩ : MethodName)) (K0 := "java/lang/String") (ybytes := jdk_42_method_152_code) (ymax := 1) (yret := (some .byte)) (yrm := ({ frames := 0, cells := 0, slots := 0, locals := 0 } : Room)) (by decide +kernel) (hw _ (List.mem_of_getElem? (i := 57) rfl)) (hw _ (List.mem_of_getElem? (i := 58) rfl)) (hw _ (List.mem_of_getElem? (i := 60) rfl)) (hw _ (List.mem_of_getElem? (i := 59) rfl)) (hw _ (List.mem_of_getElem? (i := 8) rfl)) (hw _ (List.mem_of_getElem? (i := 61) rfl)) (by decide) S.exa [] [.int (8 : Int32)] (k_co1 l wd a P1.old S2) (le_ _ _ rfl) (W := 1) (le_ _ _ rfl) (by decide +kernel : parseMethodDescriptor "()B" = some ⟨[], some .byte⟩) rfl rfl rfl (le_ _ _ rfl) (le_ _ _ rfl) (le_ _ _ rfl) (pc' := 9) rfl (fun T2 h2 v2 P2 Q2 => ?_)
  replace P2 := P2.more (k' := 0) (n' := 0) (le_ _ _ rfl) (le_ _ _ rfl)
  obtain ⟨rfl, rfl⟩ := Q2
  refine blk C P2 [.ishr] (by decide +kernel) (pc' := 10) (L' := [.val (.ref a)]) (S' := [.int (4 : Int32)]) rfl ?_
  exact r_int C P2 (ty := .int) (by simp) rfl (by decide +kernel) (le_ _ _ rfl) (le_ _ _ rfl) ⟨_, rfl, ⟨rfl, rfl⟩⟩
theorem k_iw4_ef (m : MethodId) (a : Addr) (x0 x1 x2 x3 : Int32) : entryFrame m #[.ref a, .int (65533 : Int32), .int (0 : Int32)] 3 = fr m 0 [.val (.ref a), .val (.int (65533 : Int32)), .val (.int (0 : Int32))] [] := by first | (simp [entryFrame, mkF, argsToLocals, Value.category]; done) | rfl
set_option maxRecDepth 65536 in
set_option maxHeartbeats 4000000 in
theorem k_iw4 (l : Launch) {Z : State} {a0 : Array Value} {n0 : Nat} {h : Heap} {z : Int32} {fm : Value} (wd : Wd Z a0 z fm) (a : Addr) (x0 x1 x2 x3 : Int32)  (O : Old Z n0 h) (S : Str16 Z n0 h a [x0, x1, x2, x3]) (i0 : c16 x0 = x0) (i1 : c16 x1 = x1) (i2 : c16 x2 = x2) (i3 : c16 x3 = x3) :
    Con l Z consts_1 n0 [] (⟨"java/lang/String", "indexOf", "(II)I"⟩ : MethodName) jdk_42_method_80_code 3 (some .int) ({ frames := 5, cells := 0, slots := 0, locals := 73 } : Room) #[.ref a, .int (65533 : Int32), .int (0 : Int32)] h (Ret1 fun v h' => ∃ w, v = .int w ∧ h = h' ∧ ((¬ w < 0 ∧ Lost [x0, x1, x2, x3]) ∨ (w < 0 ∧ ¬ Lost [x0, x1, x2, x3]))) := by
  obtain ⟨hw, hEL, Sz, hz, SA, SH, SL, SF, hfm⟩ := id wd
  obtain ⟨S1, S2, t, S3, S4⟩ := id S
  refine Con.intro (plainFor_of_name (by first | (simp [plainName, overriddenIn]; done) | decide +kernel)) O hEL ?_
  intro p e s m below meth c T C hs P
  have C : Ctx Z a0 consts_1 p s m meth c "java/lang/String" "indexOf" jdk_42_method_80_code 3 (some .int) := C
  refine Run.cast (k_iw4_ef m a x0 x1 x2 x3) ?_
  refine blk C P [.aload_n 0] (by decide +kernel) (pc' := 1) (L' := [.val (.ref a), .val (.int (65533 : Int32)), .val (.int (0 : Int32))]) (S' := [.ref a]) rfl ?_
  refine c_virtual C P (idx := 492) (y := (⟨"java/lang/String", "isLatin1", "()Z"⟩ : MethodName)) (K0 := "java/lang/String") (ybytes := jdk_42_method_154_code) (ymax := 1) (yret := (some .boolean)) (yrm := ({ frames := 0, cells := 0, slots := 0, locals := 0 } : Room)) (by decide +kernel) (hw _ (List.mem_of_getElem? (i := 46) rfl)) (hw _ (List.mem_of_getElem? (i := 47) rfl)) (hw _ (List.mem_of_getElem? (i := 49) rfl)) (hw _ (List.mem_of_getElem? (i := 48) rfl)) (hw _ (List.mem_of_getElem? (i := 8) rfl)) (hw _ (List.mem_of_getElem? (i := 50) rfl)) (by decide) S.exa [] [] (k_il1 l wd a P.old S2) (le_ _ _ rfl) (W := 0) (le_ _ _ rfl) (by decide +kernel : parseMethodDescriptor "()Z" = some ⟨[], some .boolean⟩) rfl rfl rfl (le_ _ _ rfl) (le_ _ _ rfl) (le_ _ _ rfl) (pc' := 4) rfl (fun T1 h1 v1 P1 Q1 => ?_)
  replace P1 := P1.more (k' := 0) (n' := 0) (le_ _ _ rfl) (le_ _ _ rfl)
  obtain ⟨rfl, rfl⟩ := Q1
  refine b_ifY C P1 (cd := .eq) (o := 19) (by decide +kernel) (pc' := 23) (by decide) (by decide : (0 : Int32) = 0) ?_
  refine blk C P1 [.aload_n 0] (by decide +kernel) (pc' := 24) (L' := [.val (.ref a), .val (.int (65533 : Int32)), .val (.int (0 : Int32))]) (S' := [.ref a]) rfl ?_
  refine s_getf C P1 (idx := 9) (by decide +kernel) (hw _ (List.mem_of_getElem? (i := 29) rfl)) S3 (pc' := 27) rfl (fun T2 P2 => ?_)
  refine blk C P2 [.iload_n 1, .iload_n 2, .aload_n 0] (by decide +kernel) (pc' := 30) (L' := [.val (.ref a), .val (.int (65533 : Int32)), .val (.int (0 : Int32))]) (S' := [.ref a, .int (0 : Int32), .int (65533 : Int32), .ref t]) rfl ?_
  refine c_virtual C P2 (idx := 505) (y := (⟨"java/lang/String", "length", "()I"⟩ : MethodName)) (K0 := "java/lang/String") (ybytes := jdk_42_method_54_code) (ymax := 1) (yret := (some .int)) (yrm := ({ frames := 1, cells := 0, slots := 0, locals := 13 } : Room)) (by decide +kernel) (hw _ (List.mem_of_getElem? (i := 52) rfl)) (hw _ (List.mem_of_getElem? (i := 53) rfl)) (hw _ (List.mem_of_getElem? (i := 55) rfl)) (hw _ (List.mem_of_getElem? (i := 54) rfl)) (hw _ (List.mem_of_getElem? (i := 8) rfl)) (hw _ (List.mem_of_getElem? (i := 56) rfl)) (by decide) S.exa [] [.int (0 : Int32), .int (65533 : Int32), .ref t] (k_sw4 l wd a x0 x1 x2 x3 P2.old S) (le_ _ _ rfl) (W := 3) (le_ _ _ rfl) (by decide +kernel : parseMethodDescriptor "()I" = some ⟨[], some .int⟩) rfl rfl rfl (le_ _ _ rfl) (le_ _ _ rfl) (le_ _ _ rfl) (pc' := 33) rfl (fun T3 h3 v3 P3 Q3 => ?_)
  replace P3 := P3.more (k' := 0) (n' := 0) (le_ _ _ rfl) (le_ _ _ rfl)
  obtain ⟨rfl, rfl⟩ := Q3
  refine c_static C P3 (idx := 640) (y := (⟨"java/lang/StringUTF16", "indexOf", "([BIII)I"⟩ : MethodName)) (ybytes := jdk_52_method_40_code) (ymax := 4) (yret := (some .int)) (yrm := ({ frames := 4, cells := 0, slots := 0, locals := 58 } : Room)) (by decide +kernel) (hw _ (List.mem_of_getElem? (i := 98) rfl)) (hw _ (List.mem_of_getElem? (i := 99) rfl)) (hw _ (List.mem_of_getElem? (i := 71) rfl)) (hw _ (List.mem_of_getElem? (i := 100) rfl)) (by decide) [.ref t, .int (65533 : Int32), .int (0 : Int32), .int (4 : Int32)] [] (k_io4 l wd t x0 x1 x2 x3 P3.old S4 i0 i1 i2 i3) (le_ _ _ rfl) (W := 0) (le_ _ _ rfl) (by decide +kernel : parseMethodDescriptor "([BIII)I" = some ⟨[(.array .byte), .int, .int, .int], some .int⟩) rfl rfl rfl (le_ _ _ rfl) (le_ _ _ rfl) (le_ _ _ rfl) (pc' := 36) rfl (fun T4 h4 v4 P4 Q4 => ?_)
  replace P4 := P4.more (k' := 0) (n' := 0) (le_ _ _ rfl) (le_ _ _ rfl)
  obtain ⟨w4, rfl, rfl, Q4⟩ := Q4
  exact r_int C P4 (ty := .int) (by simp) rfl (by decide +kernel) (le_ _ _ rfl) (le_ _ _ rfl) ⟨_, rfl, ⟨_, rfl, rfl, Q4⟩⟩
theorem k_jw4_ef (m : MethodId) (a : Addr) (x0 x1 x2 x3 : Int32) : entryFrame m #[.ref a, .int (65533 : Int32)] 2 = fr m 0 [.val (.ref a), .val (.int (65533 : Int32))] [] := by first | (simp [entryFrame, mkF, argsToLocals, Value.category]; done) | rfl
set_option maxRecDepth 65536 in
set_option maxHeartbeats 4000000 in
theorem k_jw4 (l : Launch) {Z : State} {a0 : Array Value} {n0 : Nat} {h : Heap} {z : Int32} {fm : Value} (wd : Wd Z a0 z fm) (a : Addr) (x0 x1 x2 x3 : Int32)  (O : Old Z n0 h) (S : Str16 Z n0 h a [x0, x1, x2, x3]) (i0 : c16 x0 = x0) (i1 : c16 x1 = x1) (i2 : c16 x2 = x2) (i3 : c16 x3 = x3) :
    Con l Z consts_1 n0 [] (⟨"java/lang/String", "indexOf", "(I)I"⟩ : MethodName) jdk_42_method_79_code 2 (some .int) ({ frames := 6, cells := 0, slots := 0, locals := 87 } : Room) #[.ref a, .int (65533 : Int32)] h (Ret1 fun v h' => ∃ w, v = .int w ∧ h = h' ∧ ((¬ w < 0 ∧ Lost [x0, x1, x2, x3]) ∨ (w < 0 ∧ ¬ Lost [x0, x1, x2, x3]))) := by
  obtain ⟨hw, hEL, Sz, hz, SA, SH, SL, SF, hfm⟩ := id wd
  obtain ⟨S1, S2, t, S3, S4⟩ := id S
  refine Con.intro (plainFor_of_name (by first | (simp [plainName, overriddenIn]; done) | decide +kernel)) O hEL ?_
  intro p e s m below meth c T C hs P
  have C : Ctx Z a0 consts_1 p s m meth c "java/lang/String" "indexOf" jdk_42_method_79_code 2 (some .int) := C
  refine Run.cast (k_jw4_ef m a x0 x1 x2 x3) ?_
  refine blk C P [.aload_n 0, .iload_n 1, .iconst 0] (by decide +kernel) (pc' := 3) (L' := [.val (.ref a), .val (.int (65533 : Int32))]) (S' := [.int (0 : Int32), .int (65533 : Int32), .ref a]) rfl ?_
  refine c_virtual C P (idx := 633) (y := (⟨"java/lang/String", "indexOf", "(II)I"⟩ : MethodName)) (K0 := "java/lang/String") (ybytes := jdk_42_method_80_code) (ymax := 3) (yret := (some .int)) (yrm := ({ frames := 5, cells := 0, slots := 0, locals := 73 } : Room)) (by decide +kernel) (hw _ (List.mem_of_getElem? (i := 41) rfl)) (hw _ (List.mem_of_getElem? (i := 42) rfl)) (hw _ (List.mem_of_getElem? (i := 44) rfl)) (hw _ (List.mem_of_getElem? (i := 43) rfl)) (hw _ (List.mem_of_getElem? (i := 8) rfl)) (hw _ (List.mem_of_getElem? (i := 45) rfl)) (by decide) S.exa [.int (65533 : Int32), .int (0 : Int32)] [] (k_iw4 l wd a x0 x1 x2 x3 P.old S i0 i1 i2 i3) (le_ _ _ rfl) (W := 0) (le_ _ _ rfl) (by decide +kernel : parseMethodDescriptor "(II)I" = some ⟨[.int, .int], some .int⟩) rfl rfl rfl (le_ _ _ rfl) (le_ _ _ rfl) (le_ _ _ rfl) (pc' := 6) rfl (fun T1 h1 v1 P1 Q1 => ?_)
  replace P1 := P1.more (k' := 0) (n' := 0) (le_ _ _ rfl) (le_ _ _ rfl)
  obtain ⟨w1, rfl, rfl, Q1⟩ := Q1
  exact r_int C P1 (ty := .int) (by simp) rfl (by decide +kernel) (le_ _ _ rfl) (le_ _ _ rfl) ⟨_, rfl, ⟨_, rfl, rfl, Q1⟩⟩
theorem k_lw4_ef (m : MethodId) (a : Addr) (x0 x1 x2 x3 : Int32) : entryFrame m #[.ref a] 1 = fr m 0 [.val (.ref a)] [] := by first | (simp [entryFrame, mkF, argsToLocals, Value.category]; done) | rfl
set_option maxRecDepth 65536 in
set_option maxHeartbeats 4000000 in
theorem k_lw4 (l : Launch) {Z : State} {a0 : Array Value} {n0 : Nat} {h : Heap} {z : Int32} {fm : Value} (wd : Wd Z a0 z fm) (a : Addr) (x0 x1 x2 x3 : Int32)  (O : Old Z n0 h) (S : Str16 Z n0 h a [x0, x1, x2, x3]) (i0 : c16 x0 = x0) (i1 : c16 x1 = x1) (i2 : c16 x2 = x2) (i3 : c16 x3 = x3) :
    Con l Z consts_1 n0 [] (⟨"com/example/archive_packager/archivepackager/LocaleCharset", "lostBytes", "(Ljava/lang/String;)Z"⟩ : MethodName) prog_3_method_6_code 1 (some .boolean) ({ frames := 7, cells := 0, slots := 0, locals := 100 } : Room) #[.ref a] h (Ret1 fun v h' => h = h' ∧ ((v = .int 1 ∧ Lost [x0, x1, x2, x3]) ∨ (v = .int 0 ∧ ¬ Lost [x0, x1, x2, x3]))) := by
  obtain ⟨hw, hEL, Sz, hz, SA, SH, SL, SF, hfm⟩ := id wd
  obtain ⟨S1, S2, t, S3, S4⟩ := id S
  refine Con.intro (plainFor_of_name (by first | (simp [plainName, overriddenIn]; done) | decide +kernel)) O hEL ?_
  intro p e s m below meth c T C hs P
  have C : Ctx Z a0 consts_1 p s m meth c "com/example/archive_packager/archivepackager/LocaleCharset" "lostBytes" prog_3_method_6_code 1 (some .boolean) := C
  refine Run.cast (k_lw4_ef m a x0 x1 x2 x3) ?_
  refine blk C P [.aload_n 0] (by decide +kernel) (pc' := 1) (L' := [.val (.ref a)]) (S' := [.ref a]) rfl ?_
  refine s_ldcI C P (idx := 43) (by decide +kernel) (hw _ (List.mem_of_getElem? (i := 35) rfl)) (pc' := 3) rfl ?_
  refine c_virtual C P (idx := 44) (y := (⟨"java/lang/String", "indexOf", "(I)I"⟩ : MethodName)) (K0 := "java/lang/String") (ybytes := jdk_42_method_79_code) (ymax := 2) (yret := (some .int)) (yrm := ({ frames := 6, cells := 0, slots := 0, locals := 87 } : Room)) (by decide +kernel) (hw _ (List.mem_of_getElem? (i := 36) rfl)) (hw _ (List.mem_of_getElem? (i := 37) rfl)) (hw _ (List.mem_of_getElem? (i := 39) rfl)) (hw _ (List.mem_of_getElem? (i := 38) rfl)) (hw _ (List.mem_of_getElem? (i := 8) rfl)) (hw _ (List.mem_of_getElem? (i := 40) rfl)) (by decide) S.exa [.int (65533 : Int32)] [] (k_jw4 l wd a x0 x1 x2 x3 P.old S i0 i1 i2 i3) (le_ _ _ rfl) (W := 0) (le_ _ _ rfl) (by decide +kernel : parseMethodDescriptor "(I)I" = some ⟨[.int], some .int⟩) rfl rfl rfl (le_ _ _ rfl) (le_ _ _ rfl) (le_ _ _ rfl) (pc' := 6) rfl (fun T1 h1 v1 P1 Q1 => ?_)
  replace P1 := P1.more (k' := 0) (n' := 0) (le_ _ _ rfl) (le_ _ _ rfl)
  obtain ⟨w1, rfl, rfl, Q1⟩ := Q1
  rcases Q1 with ⟨q1, Q1⟩ | ⟨q1, Q1⟩
  · skip
    refine b_ifN C P1 (cd := .lt) (o := 7) (by decide +kernel) (pc' := 9) rfl q1 ?_
    refine blk C P1 [.iconst 1] (by decide +kernel) (pc' := 10) (L' := [.val (.ref a)]) (S' := [.int (1 : Int32)]) rfl ?_
    refine b_goto C P1 (o := 4) (by decide +kernel) (pc' := 14) (by decide) ?_
    exact r_int C P1 (ty := .boolean) (by simp) rfl (by decide +kernel) (le_ _ _ rfl) (le_ _ _ rfl) ⟨_, rfl, ⟨rfl, Or.inl ⟨rfl, Q1⟩⟩⟩
  · skip
    refine b_ifY C P1 (cd := .lt) (o := 7) (by decide +kernel) (pc' := 13) (by decide) q1 ?_
    refine blk C P1 [.iconst 0] (by decide +kernel) (pc' := 14) (L' := [.val (.ref a)]) (S' := [.int (0 : Int32)]) rfl ?_
    exact r_int C P1 (ty := .boolean) (by simp) rfl (by decide +kernel) (le_ _ _ rfl) (le_ _ _ rfl) ⟨_, rfl, ⟨rfl, Or.inr ⟨rfl, Q1⟩⟩⟩
theorem k_dr_ef (m : MethodId) (x : Int32) : entryFrame m #[.int x] 1 = fr m 0 [.val (.int x)] [] := by first | (simp [entryFrame, mkF, argsToLocals, Value.category]; done) | rfl
set_option maxRecDepth 65536 in
set_option maxHeartbeats 4000000 in
theorem k_dr (l : Launch) {Z : State} {a0 : Array Value} {n0 : Nat} {h : Heap} {z : Int32} {fm : Value} (wd : Wd Z a0 z fm) (x : Int32)  (O : Old Z n0 h)  :
    Con l Z consts_1 n0 [] (⟨"com/example/archive_packager/archivepackager/LocaleCharsetLostBytesPinLaw", "draw", "(I)C"⟩ : MethodName) method_2_code 1 (some .char) ({ frames := 0, cells := 0, slots := 0, locals := 0 } : Room) #[.int x] h (Ret1 fun v h' => ∃ d, v = .int d ∧ c16 d = d ∧ h = h') := by
  obtain ⟨hw, hEL, Sz, hz, SA, SH, SL, SF, hfm⟩ := id wd
  refine Con.intro (plainFor_of_name (by first | (simp [plainName, overriddenIn]; done) | decide +kernel)) O hEL ?_
  intro p e s m below meth c T C hs P
  have C : Ctx Z a0 consts_1 p s m meth c "com/example/archive_packager/archivepackager/LocaleCharsetLostBytesPinLaw" "draw" method_2_code 1 (some .char) := C
  refine Run.cast (k_dr_ef m x) ?_
  refine blk C P [.iload_n 0, .bipush 16, .iushr, .iconst 3, .iand] (by decide +kernel) (pc' := 6) (L' := [.val (.int x)]) (S' := [.int ((XT.ushr x (16 : Int32)) &&& (3 : Int32))]) rfl ?_
  refine b_if C P (cd := .ne) (o := 6) (by decide +kernel) (pc' := 12) (by decide) (pn := 9) rfl (fun (q1 : ¬ ((XT.ushr x (16 : Int32)) &&& (3 : Int32)) = 0) => ?_) (fun (q1 : ((XT.ushr x (16 : Int32)) &&& (3 : Int32)) = 0) => ?_)
  · skip
    refine blk C P [.iload_n 0] (by decide +kernel) (pc' := 13) (L' := [.val (.int x)]) (S' := [.int x]) rfl ?_
    refine s_ldcI C P (idx := 8) (by decide +kernel) (hw _ (List.mem_of_getElem? (i := 129) rfl)) (pc' := 15) rfl ?_
    refine blk C P [.iand, .i2c] (by decide +kernel) (pc' := 17) (L' := [.val (.int x)]) (S' := [.int (c16 (x &&& (65535 : Int32)))]) rfl ?_
    exact r_int C P (ty := .char) (by simp) (c16_nar _) (by decide +kernel) (le_ _ _ rfl) (le_ _ _ rfl) ⟨_, rfl, ⟨_, rfl, (c16_idem _), rfl⟩⟩
  · skip
    refine s_ldcI C P (idx := 7) (by decide +kernel) (hw _ (List.mem_of_getElem? (i := 5) rfl)) (pc' := 11) rfl ?_
    exact r_int C P (ty := .char) (by simp) rfl (by decide +kernel) (le_ _ _ rfl) (le_ _ _ rfl) ⟨_, rfl, ⟨_, rfl, rfl, rfl⟩⟩
theorem k_bu0_ef (m : MethodId) (x0 x1 x2 x3 : Int32) : entryFrame m #[.int (0 : Int32), .int x0, .int x1, .int x2, .int x3] 5 = fr m 0 [.val (.int (0 : Int32)), .val (.int x0), .val (.int x1), .val (.int x2), .val (.int x3)] [] := by first | (simp [entryFrame, mkF, argsToLocals, Value.category]; done) | rfl
set_option maxRecDepth 65536 in
set_option maxHeartbeats 4000000 in
theorem k_bu0 (l : Launch) {Z : State} {a0 : Array Value} {n0 : Nat} {h : Heap} {z : Int32} {fm : Value} (wd : Wd Z a0 z fm) (x0 x1 x2 x3 : Int32)  (O : Old Z n0 h) (i0 : c16 x0 = x0) (i1 : c16 x1 = x1) (i2 : c16 x2 = x2) (i3 : c16 x3 = x3) :
    Con l Z consts_1 n0 [] (⟨"com/example/archive_packager/archivepackager/LocaleCharsetLostBytesPinLaw", "build", "(ICCCC)[C"⟩ : MethodName) method_3_code 5 (some (.array .char)) ({ frames := 0, cells := 1, slots := 0, locals := 0 } : Room) #[.int (0 : Int32), .int x0, .int x1, .int x2, .int x3] h (Ret1 fun v h' => ∃ r, v = .ref r ∧ Ext h h' ∧ Chs Z n0 h' r []) := by
  obtain ⟨hw, hEL, Sz, hz, SA, SH, SL, SF, hfm⟩ := id wd
  refine Con.intro (plainFor_of_name (by first | (simp [plainName, overriddenIn]; done) | decide +kernel)) O hEL ?_
  intro p e s m below meth c T C hs P
  have C : Ctx Z a0 consts_1 p s m meth c "com/example/archive_packager/archivepackager/LocaleCharsetLostBytesPinLaw" "build" method_3_code 5 (some (.array .char)) := C
  refine Run.cast (k_bu0_ef m x0 x1 x2 x3) ?_
  refine blk C P [.iload_n 0] (by decide +kernel) (pc' := 1) (L' := [.val (.int (0 : Int32)), .val (.int x0), .val (.int x1), .val (.int x2), .val (.int x3)]) (S' := [.int (0 : Int32)]) rfl ?_
  refine b_ifN C P (cd := .ne) (o := 7) (by decide +kernel) (pc' := 4) rfl (by decide : (0 : Int32) = 0) ?_
  refine blk C P [.iconst 0] (by decide +kernel) (pc' := 5) (L' := [.val (.int (0 : Int32)), .val (.int x0), .val (.int x1), .val (.int x2), .val (.int x3)]) (S' := [.int (0 : Int32)]) rfl ?_
  refine s_newC C P 0 (by decide +kernel) (hw _ (List.mem_of_getElem? (i := 12) rfl)) rfl (by decide) (le_ _ _ rfl) (le_ _ _ rfl) (pc' := 7) rfl (fun T1 h1 P1 E1 V1 => ?_)
  replace P1 := P1.more (k' := 1) (n' := 0) (le_ _ _ rfl) (le_ _ _ rfl)
  exact r_ref C P1 (w := .ref h.size) rfl rfl (by decide +kernel) (le_ _ _ rfl) (le_ _ _ rfl) ⟨_, rfl, ⟨_, rfl, E1, V1⟩⟩
theorem k_bu1_ef (m : MethodId) (x0 x1 x2 x3 : Int32) : entryFrame m #[.int (1 : Int32), .int x0, .int x1, .int x2, .int x3] 5 = fr m 0 [.val (.int (1 : Int32)), .val (.int x0), .val (.int x1), .val (.int x2), .val (.int x3)] [] := by first | (simp [entryFrame, mkF, argsToLocals, Value.category]; done) | rfl
set_option maxRecDepth 65536 in
set_option maxHeartbeats 4000000 in
theorem k_bu1 (l : Launch) {Z : State} {a0 : Array Value} {n0 : Nat} {h : Heap} {z : Int32} {fm : Value} (wd : Wd Z a0 z fm) (x0 x1 x2 x3 : Int32)  (O : Old Z n0 h) (i0 : c16 x0 = x0) (i1 : c16 x1 = x1) (i2 : c16 x2 = x2) (i3 : c16 x3 = x3) :
    Con l Z consts_1 n0 [] (⟨"com/example/archive_packager/archivepackager/LocaleCharsetLostBytesPinLaw", "build", "(ICCCC)[C"⟩ : MethodName) method_3_code 5 (some (.array .char)) ({ frames := 0, cells := 1, slots := 1, locals := 0 } : Room) #[.int (1 : Int32), .int x0, .int x1, .int x2, .int x3] h (Ret1 fun v h' => ∃ r, v = .ref r ∧ Ext h h' ∧ Chs Z n0 h' r [x0]) := by
  obtain ⟨hw, hEL, Sz, hz, SA, SH, SL, SF, hfm⟩ := id wd
  refine Con.intro (plainFor_of_name (by first | (simp [plainName, overriddenIn]; done) | decide +kernel)) O hEL ?_
  intro p e s m below meth c T C hs P
  have C : Ctx Z a0 consts_1 p s m meth c "com/example/archive_packager/archivepackager/LocaleCharsetLostBytesPinLaw" "build" method_3_code 5 (some (.array .char)) := C
  refine Run.cast (k_bu1_ef m x0 x1 x2 x3) ?_
  refine blk C P [.iload_n 0] (by decide +kernel) (pc' := 1) (L' := [.val (.int (1 : Int32)), .val (.int x0), .val (.int x1), .val (.int x2), .val (.int x3)]) (S' := [.int (1 : Int32)]) rfl ?_
  refine b_ifY C P (cd := .ne) (o := 7) (by decide +kernel) (pc' := 8) (by decide) (by decide : ¬ (1 : Int32) = 0) ?_
  refine blk C P [.iload_n 0, .iconst 1] (by decide +kernel) (pc' := 10) (L' := [.val (.int (1 : Int32)), .val (.int x0), .val (.int x1), .val (.int x2), .val (.int x3)]) (S' := [.int (1 : Int32), .int (1 : Int32)]) rfl ?_
  refine b_cmN C P (cd := .ne) (o := 11) (by decide +kernel) (pc' := 13) rfl (by decide : (1 : Int32) = (1 : Int32)) ?_
  refine blk C P [.iconst 1] (by decide +kernel) (pc' := 14) (L' := [.val (.int (1 : Int32)), .val (.int x0), .val (.int x1), .val (.int x2), .val (.int x3)]) (S' := [.int (1 : Int32)]) rfl ?_
  refine s_newC C P 1 (by decide +kernel) (hw _ (List.mem_of_getElem? (i := 12) rfl)) rfl (by decide) (le_ _ _ rfl) (le_ _ _ rfl) (pc' := 16) rfl (fun T1 h1 P1 E1 V1 => ?_)
  replace P1 := P1.more (k' := 1) (n' := 1) (le_ _ _ rfl) (le_ _ _ rfl)
  refine blk C P1 [.dup, .iconst 0, .iload_n 1] (by decide +kernel) (pc' := 19) (L' := [.val (.int (1 : Int32)), .val (.int x0), .val (.int x1), .val (.int x2), .val (.int x3)]) (S' := [.int x0, .int (0 : Int32), .ref h.size, .ref h.size]) rfl ?_
  refine s_stC C P1 0 (by decide +kernel) V1 rfl (Nat.lt_of_lt_of_le (Nat.lt_succ_self _) (le_ _ _ rfl)) i0 (pc' := 20) rfl (fun T2 h2 P2 K2 V2 => ?_)
  replace V2 : Chs Z n0 h2 (h.size) [x0] := V2
  exact r_ref C P2 (w := .ref h.size) rfl rfl (by decide +kernel) (le_ _ _ rfl) (le_ _ _ rfl) ⟨_, rfl, ⟨_, rfl, (exK E1 K2 (Nat.le_refl _)), V2⟩⟩
theorem k_bu2_ef (m : MethodId) (x0 x1 x2 x3 : Int32) : entryFrame m #[.int (2 : Int32), .int x0, .int x1, .int x2, .int x3] 5 = fr m 0 [.val (.int (2 : Int32)), .val (.int x0), .val (.int x1), .val (.int x2), .val (.int x3)] [] := by first | (simp [entryFrame, mkF, argsToLocals, Value.category]; done) | rfl
set_option maxRecDepth 65536 in
set_option maxHeartbeats 4000000 in
theorem k_bu2 (l : Launch) {Z : State} {a0 : Array Value} {n0 : Nat} {h : Heap} {z : Int32} {fm : Value} (wd : Wd Z a0 z fm) (x0 x1 x2 x3 : Int32)  (O : Old Z n0 h) (i0 : c16 x0 = x0) (i1 : c16 x1 = x1) (i2 : c16 x2 = x2) (i3 : c16 x3 = x3) :
    Con l Z consts_1 n0 [] (⟨"com/example/archive_packager/archivepackager/LocaleCharsetLostBytesPinLaw", "build", "(ICCCC)[C"⟩ : MethodName) method_3_code 5 (some (.array .char)) ({ frames := 0, cells := 1, slots := 2, locals := 0 } : Room) #[.int (2 : Int32), .int x0, .int x1, .int x2, .int x3] h (Ret1 fun v h' => ∃ r, v = .ref r ∧ Ext h h' ∧ Chs Z n0 h' r [x0, x1]) := by
  obtain ⟨hw, hEL, Sz, hz, SA, SH, SL, SF, hfm⟩ := id wd
  refine Con.intro (plainFor_of_name (by first | (simp [plainName, overriddenIn]; done) | decide +kernel)) O hEL ?_
  intro p e s m below meth c T C hs P
  have C : Ctx Z a0 consts_1 p s m meth c "com/example/archive_packager/archivepackager/LocaleCharsetLostBytesPinLaw" "build" method_3_code 5 (some (.array .char)) := C
  refine Run.cast (k_bu2_ef m x0 x1 x2 x3) ?_
  refine blk C P [.iload_n 0] (by decide +kernel) (pc' := 1) (L' := [.val (.int (2 : Int32)), .val (.int x0), .val (.int x1), .val (.int x2), .val (.int x3)]) (S' := [.int (2 : Int32)]) rfl ?_
  refine b_ifY C P (cd := .ne) (o := 7) (by decide +kernel) (pc' := 8) (by decide) (by decide : ¬ (2 : Int32) = 0) ?_
  refine blk C P [.iload_n 0, .iconst 1] (by decide +kernel) (pc' := 10) (L' := [.val (.int (2 : Int32)), .val (.int x0), .val (.int x1), .val (.int x2), .val (.int x3)]) (S' := [.int (1 : Int32), .int (2 : Int32)]) rfl ?_
  refine b_cmY C P (cd := .ne) (o := 11) (by decide +kernel) (pc' := 21) (by decide) (by decide : ¬ (2 : Int32) = (1 : Int32)) ?_
  refine blk C P [.iload_n 0, .iconst 2] (by decide +kernel) (pc' := 23) (L' := [.val (.int (2 : Int32)), .val (.int x0), .val (.int x1), .val (.int x2), .val (.int x3)]) (S' := [.int (2 : Int32), .int (2 : Int32)]) rfl ?_
  refine b_cmN C P (cd := .ne) (o := 15) (by decide +kernel) (pc' := 26) rfl (by decide : (2 : Int32) = (2 : Int32)) ?_
  refine blk C P [.iconst 2] (by decide +kernel) (pc' := 27) (L' := [.val (.int (2 : Int32)), .val (.int x0), .val (.int x1), .val (.int x2), .val (.int x3)]) (S' := [.int (2 : Int32)]) rfl ?_
  refine s_newC C P 2 (by decide +kernel) (hw _ (List.mem_of_getElem? (i := 12) rfl)) rfl (by decide) (le_ _ _ rfl) (le_ _ _ rfl) (pc' := 29) rfl (fun T1 h1 P1 E1 V1 => ?_)
  replace P1 := P1.more (k' := 1) (n' := 2) (le_ _ _ rfl) (le_ _ _ rfl)
  refine blk C P1 [.dup, .iconst 0, .iload_n 1] (by decide +kernel) (pc' := 32) (L' := [.val (.int (2 : Int32)), .val (.int x0), .val (.int x1), .val (.int x2), .val (.int x3)]) (S' := [.int x0, .int (0 : Int32), .ref h.size, .ref h.size]) rfl ?_
  refine s_stC C P1 0 (by decide +kernel) V1 rfl (Nat.lt_of_lt_of_le (Nat.lt_succ_self _) (le_ _ _ rfl)) i0 (pc' := 33) rfl (fun T2 h2 P2 K2 V2 => ?_)
  replace V2 : Chs Z n0 h2 (h.size) [x0, (0 : Int32)] := V2
  refine blk C P2 [.dup, .iconst 1, .iload_n 2] (by decide +kernel) (pc' := 36) (L' := [.val (.int (2 : Int32)), .val (.int x0), .val (.int x1), .val (.int x2), .val (.int x3)]) (S' := [.int x1, .int (1 : Int32), .ref h.size, .ref h.size]) rfl ?_
  refine s_stC C P2 1 (by decide +kernel) V2 rfl (Nat.lt_of_lt_of_le (Nat.lt_succ_self _) (le_ _ _ rfl)) i1 (pc' := 37) rfl (fun T3 h3 P3 K3 V3 => ?_)
  replace V3 : Chs Z n0 h3 (h.size) [x0, x1] := V3
  exact r_ref C P3 (w := .ref h.size) rfl rfl (by decide +kernel) (le_ _ _ rfl) (le_ _ _ rfl) ⟨_, rfl, ⟨_, rfl, (exK (exK E1 K2 (Nat.le_refl _)) K3 (Nat.le_refl _)), V3⟩⟩
theorem k_bu3_ef (m : MethodId) (x0 x1 x2 x3 : Int32) : entryFrame m #[.int (3 : Int32), .int x0, .int x1, .int x2, .int x3] 5 = fr m 0 [.val (.int (3 : Int32)), .val (.int x0), .val (.int x1), .val (.int x2), .val (.int x3)] [] := by first | (simp [entryFrame, mkF, argsToLocals, Value.category]; done) | rfl
set_option maxRecDepth 65536 in
set_option maxHeartbeats 4000000 in
theorem k_bu3 (l : Launch) {Z : State} {a0 : Array Value} {n0 : Nat} {h : Heap} {z : Int32} {fm : Value} (wd : Wd Z a0 z fm) (x0 x1 x2 x3 : Int32)  (O : Old Z n0 h) (i0 : c16 x0 = x0) (i1 : c16 x1 = x1) (i2 : c16 x2 = x2) (i3 : c16 x3 = x3) :
    Con l Z consts_1 n0 [] (⟨"com/example/archive_packager/archivepackager/LocaleCharsetLostBytesPinLaw", "build", "(ICCCC)[C"⟩ : MethodName) method_3_code 5 (some (.array .char)) ({ frames := 0, cells := 1, slots := 3, locals := 0 } : Room) #[.int (3 : Int32), .int x0, .int x1, .int x2, .int x3] h (Ret1 fun v h' => ∃ r, v = .ref r ∧ Ext h h' ∧ Chs Z n0 h' r [x0, x1, x2]) := by
  obtain ⟨hw, hEL, Sz, hz, SA, SH, SL, SF, hfm⟩ := id wd
  refine Con.intro (plainFor_of_name (by first | (simp [plainName, overriddenIn]; done) | decide +kernel)) O hEL ?_
  intro p e s m below meth c T C hs P
  have C : Ctx Z a0 consts_1 p s m meth c "com/example/archive_packager/archivepackager/LocaleCharsetLostBytesPinLaw" "build" method_3_code 5 (some (.array .char)) := C
  refine Run.cast (k_bu3_ef m x0 x1 x2 x3) ?_
  refine blk C P [.iload_n 0] (by decide +kernel) (pc' := 1) (L' := [.val (.int (3 : Int32)), .val (.int x0), .val (.int x1), .val (.int x2), .val (.int x3)]) (S' := [.int (3 : Int32)]) rfl ?_
  refine b_ifY C P (cd := .ne) (o := 7) (by decide +kernel) (pc' := 8) (by decide) (by decide : ¬ (3 : Int32) = 0) ?_
  refine blk C P [.iload_n 0, .iconst 1] (by decide +kernel) (pc' := 10) (L' := [.val (.int (3 : Int32)), .val (.int x0), .val (.int x1), .val (.int x2), .val (.int x3)]) (S' := [.int (1 : Int32), .int (3 : Int32)]) rfl ?_
  refine b_cmY C P (cd := .ne) (o := 11) (by decide +kernel) (pc' := 21) (by decide) (by decide : ¬ (3 : Int32) = (1 : Int32)) ?_
  refine blk C P [.iload_n 0, .iconst 2] (by decide +kernel) (pc' := 23) (L' := [.val (.int (3 : Int32)), .val (.int x0), .val (.int x1), .val (.int x2), .val (.int x3)]) (S' := [.int (2 : Int32), .int (3 : Int32)]) rfl ?_
  refine b_cmY C P (cd := .ne) (o := 15) (by decide +kernel) (pc' := 38) (by decide) (by decide : ¬ (3 : Int32) = (2 : Int32)) ?_
  refine blk C P [.iload_n 0, .iconst 3] (by decide +kernel) (pc' := 40) (L' := [.val (.int (3 : Int32)), .val (.int x0), .val (.int x1), .val (.int x2), .val (.int x3)]) (S' := [.int (3 : Int32), .int (3 : Int32)]) rfl ?_
  refine b_cmN C P (cd := .ne) (o := 19) (by decide +kernel) (pc' := 43) rfl (by decide : (3 : Int32) = (3 : Int32)) ?_
  refine blk C P [.iconst 3] (by decide +kernel) (pc' := 44) (L' := [.val (.int (3 : Int32)), .val (.int x0), .val (.int x1), .val (.int x2), .val (.int x3)]) (S' := [.int (3 : Int32)]) rfl ?_
  refine s_newC C P 3 (by decide +kernel) (hw _ (List.mem_of_getElem? (i := 12) rfl)) rfl (by decide) (le_ _ _ rfl) (le_ _ _ rfl) (pc' := 46) rfl (fun T1 h1 P1 E1 V1 => ?_)
  replace P1 := P1.more (k' := 1) (n' := 3) (le_ _ _ rfl) (le_ _ _ rfl)
  refine blk C P1 [.dup, .iconst 0, .iload_n 1] (by decide +kernel) (pc' := 49) (L' := [.val (.int (3 : Int32)), .val (.int x0), .val (.int x1), .val (.int x2), .val (.int x3)]) (S' := [.int x0, .int (0 : Int32), .ref h.size, .ref h.size]) rfl ?_
  refine s_stC C P1 0 (by decide +kernel) V1 rfl (Nat.lt_of_lt_of_le (Nat.lt_succ_self _) (le_ _ _ rfl)) i0 (pc' := 50) rfl (fun T2 h2 P2 K2 V2 => ?_)
  replace V2 : Chs Z n0 h2 (h.size) [x0, (0 : Int32), (0 : Int32)] := V2
  refine blk C P2 [.dup, .iconst 1, .iload_n 2] (by decide +kernel) (pc' := 53) (L' := [.val (.int (3 : Int32)), .val (.int x0), .val (.int x1), .val (.int x2), .val (.int x3)]) (S' := [.int x1, .int (1 : Int32), .ref h.size, .ref h.size]) rfl ?_
  refine s_stC C P2 1 (by decide +kernel) V2 rfl (Nat.lt_of_lt_of_le (Nat.lt_succ_self _) (le_ _ _ rfl)) i1 (pc' := 54) rfl (fun T3 h3 P3 K3 V3 => ?_)
  replace V3 : Chs Z n0 h3 (h.size) [x0, x1, (0 : Int32)] := V3
  refine blk C P3 [.dup, .iconst 2, .iload_n 3] (by decide +kernel) (pc' := 57) (L' := [.val (.int (3 : Int32)), .val (.int x0), .val (.int x1), .val (.int x2), .val (.int x3)]) (S' := [.int x2, .int (2 : Int32), .ref h.size, .ref h.size]) rfl ?_
  refine s_stC C P3 2 (by decide +kernel) V3 rfl (Nat.lt_of_lt_of_le (Nat.lt_succ_self _) (le_ _ _ rfl)) i2 (pc' := 58) rfl (fun T4 h4 P4 K4 V4 => ?_)
  replace V4 : Chs Z n0 h4 (h.size) [x0, x1, x2] := V4
  exact r_ref C P4 (w := .ref h.size) rfl rfl (by decide +kernel) (le_ _ _ rfl) (le_ _ _ rfl) ⟨_, rfl, ⟨_, rfl, (exK (exK (exK E1 K2 (Nat.le_refl _)) K3 (Nat.le_refl _)) K4 (Nat.le_refl _)), V4⟩⟩
theorem k_bu4_ef (m : MethodId) (x0 x1 x2 x3 : Int32) : entryFrame m #[.int (4 : Int32), .int x0, .int x1, .int x2, .int x3] 5 = fr m 0 [.val (.int (4 : Int32)), .val (.int x0), .val (.int x1), .val (.int x2), .val (.int x3)] [] := by first | (simp [entryFrame, mkF, argsToLocals, Value.category]; done) | rfl
set_option maxRecDepth 65536 in
set_option maxHeartbeats 4000000 in
theorem k_bu4 (l : Launch) {Z : State} {a0 : Array Value} {n0 : Nat} {h : Heap} {z : Int32} {fm : Value} (wd : Wd Z a0 z fm) (x0 x1 x2 x3 : Int32)  (O : Old Z n0 h) (i0 : c16 x0 = x0) (i1 : c16 x1 = x1) (i2 : c16 x2 = x2) (i3 : c16 x3 = x3) :
    Con l Z consts_1 n0 [] (⟨"com/example/archive_packager/archivepackager/LocaleCharsetLostBytesPinLaw", "build", "(ICCCC)[C"⟩ : MethodName) method_3_code 5 (some (.array .char)) ({ frames := 0, cells := 1, slots := 4, locals := 0 } : Room) #[.int (4 : Int32), .int x0, .int x1, .int x2, .int x3] h (Ret1 fun v h' => ∃ r, v = .ref r ∧ Ext h h' ∧ Chs Z n0 h' r [x0, x1, x2, x3]) := by
  obtain ⟨hw, hEL, Sz, hz, SA, SH, SL, SF, hfm⟩ := id wd
  refine Con.intro (plainFor_of_name (by first | (simp [plainName, overriddenIn]; done) | decide +kernel)) O hEL ?_
  intro p e s m below meth c T C hs P
  have C : Ctx Z a0 consts_1 p s m meth c "com/example/archive_packager/archivepackager/LocaleCharsetLostBytesPinLaw" "build" method_3_code 5 (some (.array .char)) := C
  refine Run.cast (k_bu4_ef m x0 x1 x2 x3) ?_
  refine blk C P [.iload_n 0] (by decide +kernel) (pc' := 1) (L' := [.val (.int (4 : Int32)), .val (.int x0), .val (.int x1), .val (.int x2), .val (.int x3)]) (S' := [.int (4 : Int32)]) rfl ?_
  refine b_ifY C P (cd := .ne) (o := 7) (by decide +kernel) (pc' := 8) (by decide) (by decide : ¬ (4 : Int32) = 0) ?_
  refine blk C P [.iload_n 0, .iconst 1] (by decide +kernel) (pc' := 10) (L' := [.val (.int (4 : Int32)), .val (.int x0), .val (.int x1), .val (.int x2), .val (.int x3)]) (S' := [.int (1 : Int32), .int (4 : Int32)]) rfl ?_
  refine b_cmY C P (cd := .ne) (o := 11) (by decide +kernel) (pc' := 21) (by decide) (by decide : ¬ (4 : Int32) = (1 : Int32)) ?_
  refine blk C P [.iload_n 0, .iconst 2] (by decide +kernel) (pc' := 23) (L' := [.val (.int (4 : Int32)), .val (.int x0), .val (.int x1), .val (.int x2), .val (.int x3)]) (S' := [.int (2 : Int32), .int (4 : Int32)]) rfl ?_
  refine b_cmY C P (cd := .ne) (o := 15) (by decide +kernel) (pc' := 38) (by decide) (by decide : ¬ (4 : Int32) = (2 : Int32)) ?_
  refine blk C P [.iload_n 0, .iconst 3] (by decide +kernel) (pc' := 40) (L' := [.val (.int (4 : Int32)), .val (.int x0), .val (.int x1), .val (.int x2), .val (.int x3)]) (S' := [.int (3 : Int32), .int (4 : Int32)]) rfl ?_
  refine b_cmY C P (cd := .ne) (o := 19) (by decide +kernel) (pc' := 59) (by decide) (by decide : ¬ (4 : Int32) = (3 : Int32)) ?_
  refine blk C P [.iconst 4] (by decide +kernel) (pc' := 60) (L' := [.val (.int (4 : Int32)), .val (.int x0), .val (.int x1), .val (.int x2), .val (.int x3)]) (S' := [.int (4 : Int32)]) rfl ?_
  refine s_newC C P 4 (by decide +kernel) (hw _ (List.mem_of_getElem? (i := 12) rfl)) rfl (by decide) (le_ _ _ rfl) (le_ _ _ rfl) (pc' := 62) rfl (fun T1 h1 P1 E1 V1 => ?_)
  replace P1 := P1.more (k' := 1) (n' := 4) (le_ _ _ rfl) (le_ _ _ rfl)
  refine blk C P1 [.dup, .iconst 0, .iload_n 1] (by decide +kernel) (pc' := 65) (L' := [.val (.int (4 : Int32)), .val (.int x0), .val (.int x1), .val (.int x2), .val (.int x3)]) (S' := [.int x0, .int (0 : Int32), .ref h.size, .ref h.size]) rfl ?_
  refine s_stC C P1 0 (by decide +kernel) V1 rfl (Nat.lt_of_lt_of_le (Nat.lt_succ_self _) (le_ _ _ rfl)) i0 (pc' := 66) rfl (fun T2 h2 P2 K2 V2 => ?_)
  replace V2 : Chs Z n0 h2 (h.size) [x0, (0 : Int32), (0 : Int32), (0 : Int32)] := V2
  refine blk C P2 [.dup, .iconst 1, .iload_n 2] (by decide +kernel) (pc' := 69) (L' := [.val (.int (4 : Int32)), .val (.int x0), .val (.int x1), .val (.int x2), .val (.int x3)]) (S' := [.int x1, .int (1 : Int32), .ref h.size, .ref h.size]) rfl ?_
  refine s_stC C P2 1 (by decide +kernel) V2 rfl (Nat.lt_of_lt_of_le (Nat.lt_succ_self _) (le_ _ _ rfl)) i1 (pc' := 70) rfl (fun T3 h3 P3 K3 V3 => ?_)
  replace V3 : Chs Z n0 h3 (h.size) [x0, x1, (0 : Int32), (0 : Int32)] := V3
  refine blk C P3 [.dup, .iconst 2, .iload_n 3] (by decide +kernel) (pc' := 73) (L' := [.val (.int (4 : Int32)), .val (.int x0), .val (.int x1), .val (.int x2), .val (.int x3)]) (S' := [.int x2, .int (2 : Int32), .ref h.size, .ref h.size]) rfl ?_
  refine s_stC C P3 2 (by decide +kernel) V3 rfl (Nat.lt_of_lt_of_le (Nat.lt_succ_self _) (le_ _ _ rfl)) i2 (pc' := 74) rfl (fun T4 h4 P4 K4 V4 => ?_)
  replace V4 : Chs Z n0 h4 (h.size) [x0, x1, x2, (0 : Int32)] := V4
  refine blk C P4 [.dup, .iconst 3, .iload 4] (by decide +kernel) (pc' := 78) (L' := [.val (.int (4 : Int32)), .val (.int x0), .val (.int x1), .val (.int x2), .val (.int x3)]) (S' := [.int x3, .int (3 : Int32), .ref h.size, .ref h.size]) rfl ?_
  refine s_stC C P4 3 (by decide +kernel) V4 rfl (Nat.lt_of_lt_of_le (Nat.lt_succ_self _) (le_ _ _ rfl)) i3 (pc' := 79) rfl (fun T5 h5 P5 K5 V5 => ?_)
  replace V5 : Chs Z n0 h5 (h.size) [x0, x1, x2, x3] := V5
  exact r_ref C P5 (w := .ref h.size) rfl rfl (by decide +kernel) (le_ _ _ rfl) (le_ _ _ rfl) ⟨_, rfl, ⟨_, rfl, (exK (exK (exK (exK E1 K2 (Nat.le_refl _)) K3 (Nat.le_refl _)) K4 (Nat.le_refl _)) K5 (Nat.le_refl _)), V5⟩⟩
set_option maxRecDepth 65536 in
set_option maxHeartbeats 4000000 in
theorem t6_0 (l : Launch) {Z : State} {a0 : Array Value} {n0 : Nat} {h : Heap} {z : Int32} {fm : Value} (wd : Wd Z a0 z fm) (y0 y1 y2 y3 y4 : Int32)  {p : Program} {e : Env} {s : State} {m : MethodId} {args : Array Value} {below : List Frame} {meth : Method} {c : Code} {T : State} (C : Ctx Z a0 consts_1 p s m meth c "com/example/archive_packager/archivepackager/LocaleCharsetLostBytesPinLaw" "law" code 12 (some .boolean)) (P : Pos Z consts_1 n0 p l e room_1 s m args below meth c T h 0 0)  :
    Jvm.Own.Run p.tables e below (Jvm.Own.Ends Z consts_1 n0 room_1 below (Ret1 fun v h' => v = .int 1) s) T (fr m 6 [.val (.int y0), .val (.int y1), .val (.int y2), .val (.int y3), .val (.int y4), .unset, .unset, .unset, .unset, .unset, .unset, .unset] [.int (0 : Int32)]) := by
  obtain ⟨hw, hEL, Sz, hz, SA, SH, SL, SF, hfm⟩ := id wd
  have wS : ∀ a ∈ Bundle.stringAtoms, a.before a0 Z = true := fun d hd => hw d ((by decide +kernel : ∀ d ∈ Bundle.stringAtoms, d ∈ tables_1) d hd)
  refine blk C P [.istore 5, .iload_n 1] (by decide +kernel) (pc' := 9) (L' := [.val (.int y0), .val (.int y1), .val (.int y2), .val (.int y3), .val (.int y4), .val (.int (0 : Int32)), .unset, .unset, .unset, .unset, .unset, .unset]) (S' := [.int y1]) rfl ?_
  refine c_static C P (idx := 10) (y := (⟨"com/example/archive_packager/archivepackager/LocaleCharsetLostBytesPinLaw", "draw", "(I)C"⟩ : MethodName)) (ybytes := method_2_code) (ymax := 1) (yret := (some .char)) (yrm := ({ frames := 0, cells := 0, slots := 0, locals := 0 } : Room)) (by decide +kernel) (hw _ (List.mem_of_getElem? (i := 1) rfl)) (hw _ (List.mem_of_getElem? (i := 2) rfl)) (hw _ (List.mem_of_getElem? (i := 3) rfl)) (hw _ (List.mem_of_getElem? (i := 4) rfl)) (by decide) [.int y1] [] (k_dr l wd y1 P.old ) (le_ _ _ rfl) (W := 0) (le_ _ _ rfl) (by decide +kernel : parseMethodDescriptor "(I)C" = some ⟨[.int], some .char⟩) rfl rfl rfl (le_ _ _ rfl) (le_ _ _ rfl) (le_ _ _ rfl) (pc' := 12) rfl (fun T1 h1 v1 P1 Q1 => ?_)
  replace P1 := P1.more (k' := 0) (n' := 0) (le_ _ _ rfl) (le_ _ _ rfl)
  obtain ⟨d1, rfl, I1, rfl⟩ := Q1
  refine blk C P1 [.istore 6, .iload_n 2] (by decide +kernel) (pc' := 15) (L' := [.val (.int y0), .val (.int y1), .val (.int y2), .val (.int y3), .val (.int y4), .val (.int (0 : Int32)), .val (.int d1), .unset, .unset, .unset, .unset, .unset]) (S' := [.int y2]) rfl ?_
  refine c_static C P1 (idx := 10) (y := (⟨"com/example/archive_packager/archivepackager/LocaleCharsetLostBytesPinLaw", "draw", "(I)C"⟩ : MethodName)) (ybytes := method_2_code) (ymax := 1) (yret := (some .char)) (yrm := ({ frames := 0, cells := 0, slots := 0, locals := 0 } : Room)) (by decide +kernel) (hw _ (List.mem_of_getElem? (i := 1) rfl)) (hw _ (List.mem_of_getElem? (i := 2) rfl)) (hw _ (List.mem_of_getElem? (i := 3) rfl)) (hw _ (List.mem_of_getElem? (i := 4) rfl)) (by decide) [.int y2] [] (k_dr l wd y2 P1.old ) (le_ _ _ rfl) (W := 0) (le_ _ _ rfl) (by decide +kernel : parseMethodDescriptor "(I)C" = some ⟨[.int], some .char⟩) rfl rfl rfl (le_ _ _ rfl) (le_ _ _ rfl) (le_ _ _ rfl) (pc' := 18) rfl (fun T2 h2 v2 P2 Q2 => ?_)
  replace P2 := P2.more (k' := 0) (n' := 0) (le_ _ _ rfl) (le_ _ _ rfl)
  obtain ⟨d2, rfl, I2, rfl⟩ := Q2
  refine blk C P2 [.istore 7, .iload_n 3] (by decide +kernel) (pc' := 21) (L' := [.val (.int y0), .val (.int y1), .val (.int y2), .val (.int y3), .val (.int y4), .val (.int (0 : Int32)), .val (.int d1), .val (.int d2), .unset, .unset, .unset, .unset]) (S' := [.int y3]) rfl ?_
  refine c_static C P2 (idx := 10) (y := (⟨"com/example/archive_packager/archivepackager/LocaleCharsetLostBytesPinLaw", "draw", "(I)C"⟩ : MethodName)) (ybytes := method_2_code) (ymax := 1) (yret := (some .char)) (yrm := ({ frames := 0, cells := 0, slots := 0, locals := 0 } : Room)) (by decide +kernel) (hw _ (List.mem_of_getElem? (i := 1) rfl)) (hw _ (List.mem_of_getElem? (i := 2) rfl)) (hw _ (List.mem_of_getElem? (i := 3) rfl)) (hw _ (List.mem_of_getElem? (i := 4) rfl)) (by decide) [.int y3] [] (k_dr l wd y3 P2.old ) (le_ _ _ rfl) (W := 0) (le_ _ _ rfl) (by decide +kernel : parseMethodDescriptor "(I)C" = some ⟨[.int], some .char⟩) rfl rfl rfl (le_ _ _ rfl) (le_ _ _ rfl) (le_ _ _ rfl) (pc' := 24) rfl (fun T3 h3 v3 P3 Q3 => ?_)
  replace P3 := P3.more (k' := 0) (n' := 0) (le_ _ _ rfl) (le_ _ _ rfl)
  obtain ⟨d3, rfl, I3, rfl⟩ := Q3
  refine blk C P3 [.istore 8, .iload 4] (by decide +kernel) (pc' := 28) (L' := [.val (.int y0), .val (.int y1), .val (.int y2), .val (.int y3), .val (.int y4), .val (.int (0 : Int32)), .val (.int d1), .val (.int d2), .val (.int d3), .unset, .unset, .unset]) (S' := [.int y4]) rfl ?_
  refine c_static C P3 (idx := 10) (y := (⟨"com/example/archive_packager/archivepackager/LocaleCharsetLostBytesPinLaw", "draw", "(I)C"⟩ : MethodName)) (ybytes := method_2_code) (ymax := 1) (yret := (some .char)) (yrm := ({ frames := 0, cells := 0, slots := 0, locals := 0 } : Room)) (by decide +kernel) (hw _ (List.mem_of_getElem? (i := 1) rfl)) (hw _ (List.mem_of_getElem? (i := 2) rfl)) (hw _ (List.mem_of_getElem? (i := 3) rfl)) (hw _ (List.mem_of_getElem? (i := 4) rfl)) (by decide) [.int y4] [] (k_dr l wd y4 P3.old ) (le_ _ _ rfl) (W := 0) (le_ _ _ rfl) (by decide +kernel : parseMethodDescriptor "(I)C" = some ⟨[.int], some .char⟩) rfl rfl rfl (le_ _ _ rfl) (le_ _ _ rfl) (le_ _ _ rfl) (pc' := 31) rfl (fun T4 h4 v4 P4 Q4 => ?_)
  replace P4 := P4.more (k' := 0) (n' := 0) (le_ _ _ rfl) (le_ _ _ rfl)
  obtain ⟨d4, rfl, I4, rfl⟩ := Q4
  refine blk C P4 [.istore 9] (by decide +kernel) (pc' := 33) (L' := [.val (.int y0), .val (.int y1), .val (.int y2), .val (.int y3), .val (.int y4), .val (.int (0 : Int32)), .val (.int d1), .val (.int d2), .val (.int d3), .val (.int d4), .unset, .unset]) (S' := []) rfl ?_
  refine s_new C P4 (idx := 16) (by decide +kernel) (hw _ (List.mem_of_getElem? (i := 6) rfl)) (hw _ (List.mem_of_getElem? (i := 7) rfl)) (hw _ (List.mem_of_getElem? (i := 8) rfl)) (le_ _ _ rfl) (le_ _ _ rfl) (pc' := 36) rfl (fun T5 h5 P5 E5 B5 => ?_)
  replace P5 := P5.more (k' := 1) (n' := 4) (le_ _ _ rfl) (le_ _ _ rfl)
  refine blk C P5 [.dup, .iload 5, .iload 6, .iload 7, .iload 8, .iload 9] (by decide +kernel) (pc' := 47) (L' := [.val (.int y0), .val (.int y1), .val (.int y2), .val (.int y3), .val (.int y4), .val (.int (0 : Int32)), .val (.int d1), .val (.int d2), .val (.int d3), .val (.int d4), .unset, .unset]) (S' := [.int d4, .int d3, .int d2, .int d1, .int (0 : Int32), .ref h.size, .ref h.size]) rfl ?_
  refine c_static C P5 (idx := 18) (y := (⟨"com/example/archive_packager/archivepackager/LocaleCharsetLostBytesPinLaw", "build", "(ICCCC)[C"⟩ : MethodName)) (ybytes := method_3_code) (ymax := 5) (yret := (some (.array .char))) (yrm := ({ frames := 0, cells := 1, slots := 0, locals := 0 } : Room)) (by decide +kernel) (hw _ (List.mem_of_getElem? (i := 9) rfl)) (hw _ (List.mem_of_getElem? (i := 10) rfl)) (hw _ (List.mem_of_getElem? (i := 3) rfl)) (hw _ (List.mem_of_getElem? (i := 11) rfl)) (by decide) [.int (0 : Int32), .int d1, .int d2, .int d3, .int d4] [.ref h.size, .ref h.size] (k_bu0 l wd d1 d2 d3 d4 P5.old I1 I2 I3 I4) (le_ _ _ rfl) (W := 2) (le_ _ _ rfl) (by decide +kernel : parseMethodDescriptor "(ICCCC)[C" = some ⟨[.int, .char, .char, .char, .char], some (.array .char)⟩) rfl rfl rfl (le_ _ _ rfl) (le_ _ _ rfl) (le_ _ _ rfl) (pc' := 50) rfl (fun T6 h6 v6 P6 Q6 => ?_)
  replace P6 := P6.more (k' := 2) (n' := 4) (le_ _ _ rfl) (le_ _ _ rfl)
  obtain ⟨b6, rfl, E6, V6⟩ := Q6
  have B8 := (B5.ext E6)
  refine c_newStr C P6 hw Sz hz (idx := 22) (cs := []) (rest := [.ref h.size]) (W := 1) (by decide +kernel) (hw _ (List.mem_of_getElem? (i := 13) rfl)) (hw _ (List.mem_of_getElem? (i := 14) rfl)) B8 V6 lat0 rfl (le_ _ _ rfl) (le_ _ _ rfl) (le_ _ _ rfl) (le_ _ _ rfl) (le_ _ _ rfl) (pc' := 53) rfl (fun T7 h7 P7 K7 S7 => ?_)
  replace P7 := P7.more (k' := 4) (n' := 8) (le_ _ _ rfl) (le_ _ _ rfl)
  refine blk C P7 [.astore 10, .iload 5, .iconst 1] (by decide +kernel) (pc' := 58) (L' := [.val (.int y0), .val (.int y1), .val (.int y2), .val (.int y3), .val (.int y4), .val (.int (0 : Int32)), .val (.int d1), .val (.int d2), .val (.int d3), .val (.int d4), .val (.ref h.size), .unset]) (S' := [.int (1 : Int32), .int (0 : Int32)]) rfl ?_
  refine b_cmY C P7 (cd := .lt) (o := 10) (by decide +kernel) (pc' := 68) (by decide) (by decide : (0 : Int32) < (1 : Int32)) ?_
  refine blk C P7 [.iload 5, .iconst 2] (by decide +kernel) (pc' := 71) (L' := [.val (.int y0), .val (.int y1), .val (.int y2), .val (.int y3), .val (.int y4), .val (.int (0 : Int32)), .val (.int d1), .val (.int d2), .val (.int d3), .val (.int d4), .val (.ref h.size), .unset]) (S' := [.int (2 : Int32), .int (0 : Int32)]) rfl ?_
  refine b_cmY C P7 (cd := .lt) (o := 10) (by decide +kernel) (pc' := 81) (by decide) (by decide : (0 : Int32) < (2 : Int32)) ?_
  refine blk C P7 [.iload 5, .iconst 3] (by decide +kernel) (pc' := 84) (L' := [.val (.int y0), .val (.int y1), .val (.int y2), .val (.int y3), .val (.int y4), .val (.int (0 : Int32)), .val (.int d1), .val (.int d2), .val (.int d3), .val (.int d4), .val (.ref h.size), .unset]) (S' := [.int (3 : Int32), .int (0 : Int32)]) rfl ?_
  refine b_cmY C P7 (cd := .lt) (o := 10) (by decide +kernel) (pc' := 94) (by decide) (by decide : (0 : Int32) < (3 : Int32)) ?_
  refine blk C P7 [.iload 5, .iconst 4] (by decide +kernel) (pc' := 97) (L' := [.val (.int y0), .val (.int y1), .val (.int y2), .val (.int y3), .val (.int y4), .val (.int (0 : Int32)), .val (.int d1), .val (.int d2), .val (.int d3), .val (.int d4), .val (.ref h.size), .unset]) (S' := [.int (4 : Int32), .int (0 : Int32)]) rfl ?_
  refine b_cmY C P7 (cd := .lt) (o := 14) (by decide +kernel) (pc' := 111) (by decide) (by decide : (0 : Int32) < (4 : Int32)) ?_
  refine blk C P7 [.iconst 0, .istore 11, .aload 10] (by decide +kernel) (pc' := 116) (L' := [.val (.int y0), .val (.int y1), .val (.int y2), .val (.int y3), .val (.int y4), .val (.int (0 : Int32)), .val (.int d1), .val (.int d2), .val (.int d3), .val (.int d4), .val (.ref h.size), .val (.int (0 : Int32))]) (S' := [.ref h.size]) rfl ?_
  refine c_static C P7 (idx := 25) (y := (⟨"com/example/archive_packager/archivepackager/LocaleCharset", "lostBytes", "(Ljava/lang/String;)Z"⟩ : MethodName)) (ybytes := prog_3_method_6_code) (ymax := 1) (yret := (some .boolean)) (yrm := ({ frames := 4, cells := 0, slots := 0, locals := 55 } : Room)) (by decide +kernel) (hw _ (List.mem_of_getElem? (i := 31) rfl)) (hw _ (List.mem_of_getElem? (i := 32) rfl)) (hw _ (List.mem_of_getElem? (i := 33) rfl)) (hw _ (List.mem_of_getElem? (i := 34) rfl)) (by decide) [.ref h.size] [] (k_ll l wd (h.size) P7.old S7) (le_ _ _ rfl) (W := 0) (le_ _ _ rfl) (by decide +kernel : parseMethodDescriptor "(Ljava/lang/String;)Z" = some ⟨[(.object "java/lang/String")], some .boolean⟩) rfl rfl rfl (le_ _ _ rfl) (le_ _ _ rfl) (le_ _ _ rfl) (pc' := 119) rfl (fun T9 h9 v9 P9 Q9 => ?_)
  replace P9 := P9.more (k' := 4) (n' := 8) (le_ _ _ rfl) (le_ _ _ rfl)
  obtain ⟨rfl, rfl⟩ := Q9
  refine blk C P9 [.iload 11] (by decide +kernel) (pc' := 121) (L' := [.val (.int y0), .val (.int y1), .val (.int y2), .val (.int y3), .val (.int y4), .val (.int (0 : Int32)), .val (.int d1), .val (.int d2), .val (.int d3), .val (.int d4), .val (.ref h.size), .val (.int (0 : Int32))]) (S' := [.int (0 : Int32), .int (0 : Int32)]) rfl ?_
  refine b_cmN C P9 (cd := .ne) (o := 7) (by decide +kernel) (pc' := 124) rfl (by decide : (0 : Int32) = (0 : Int32)) ?_
  refine blk C P9 [.iconst 1] (by decide +kernel) (pc' := 125) (L' := [.val (.int y0), .val (.int y1), .val (.int y2), .val (.int y3), .val (.int y4), .val (.int (0 : Int32)), .val (.int d1), .val (.int d2), .val (.int d3), .val (.int d4), .val (.ref h.size), .val (.int (0 : Int32))]) (S' := [.int (1 : Int32)]) rfl ?_
  refine b_goto C P9 (o := 4) (by decide +kernel) (pc' := 129) (by decide) ?_
  exact r_int C P9 (ty := .boolean) (by simp) rfl (by decide +kernel) (le_ _ _ rfl) (le_ _ _ rfl) ⟨_, rfl, rfl⟩
set_option maxRecDepth 65536 in
set_option maxHeartbeats 4000000 in
theorem t6_1 (l : Launch) {Z : State} {a0 : Array Value} {n0 : Nat} {h : Heap} {z : Int32} {fm : Value} (wd : Wd Z a0 z fm) (y0 y1 y2 y3 y4 : Int32)  {p : Program} {e : Env} {s : State} {m : MethodId} {args : Array Value} {below : List Frame} {meth : Method} {c : Code} {T : State} (C : Ctx Z a0 consts_1 p s m meth c "com/example/archive_packager/archivepackager/LocaleCharsetLostBytesPinLaw" "law" code 12 (some .boolean)) (P : Pos Z consts_1 n0 p l e room_1 s m args below meth c T h 0 0)  :
    Jvm.Own.Run p.tables e below (Jvm.Own.Ends Z consts_1 n0 room_1 below (Ret1 fun v h' => v = .int 1) s) T (fr m 6 [.val (.int y0), .val (.int y1), .val (.int y2), .val (.int y3), .val (.int y4), .unset, .unset, .unset, .unset, .unset, .unset, .unset] [.int (1 : Int32)]) := by
  obtain ⟨hw, hEL, Sz, hz, SA, SH, SL, SF, hfm⟩ := id wd
  have wS : ∀ a ∈ Bundle.stringAtoms, a.before a0 Z = true := fun d hd => hw d ((by decide +kernel : ∀ d ∈ Bundle.stringAtoms, d ∈ tables_1) d hd)
  refine blk C P [.istore 5, .iload_n 1] (by decide +kernel) (pc' := 9) (L' := [.val (.int y0), .val (.int y1), .val (.int y2), .val (.int y3), .val (.int y4), .val (.int (1 : Int32)), .unset, .unset, .unset, .unset, .unset, .unset]) (S' := [.int y1]) rfl ?_
  refine c_static C P (idx := 10) (y := (⟨"com/example/archive_packager/archivepackager/LocaleCharsetLostBytesPinLaw", "draw", "(I)C"⟩ : MethodName)) (ybytes := method_2_code) (ymax := 1) (yret := (some .char)) (yrm := ({ frames := 0, cells := 0, slots := 0, locals := 0 } : Room)) (by decide +kernel) (hw _ (List.mem_of_getElem? (i := 1) rfl)) (hw _ (List.mem_of_getElem? (i := 2) rfl)) (hw _ (List.mem_of_getElem? (i := 3) rfl)) (hw _ (List.mem_of_getElem? (i := 4) rfl)) (by decide) [.int y1] [] (k_dr l wd y1 P.old ) (le_ _ _ rfl) (W := 0) (le_ _ _ rfl) (by decide +kernel : parseMethodDescriptor "(I)C" = some ⟨[.int], some .char⟩) rfl rfl rfl (le_ _ _ rfl) (le_ _ _ rfl) (le_ _ _ rfl) (pc' := 12) rfl (fun T1 h1 v1 P1 Q1 => ?_)
  replace P1 := P1.more (k' := 0) (n' := 0) (le_ _ _ rfl) (le_ _ _ rfl)
  obtain ⟨d1, rfl, I1, rfl⟩ := Q1
  refine blk C P1 [.istore 6, .iload_n 2] (by decide +kernel) (pc' := 15) (L' := [.val (.int y0), .val (.int y1), .val (.int y2), .val (.int y3), .val (.int y4), .val (.int (1 : Int32)), .val (.int d1), .unset, .unset, .unset, .unset, .unset]) (S' := [.int y2]) rfl ?_
  refine c_static C P1 (idx := 10) (y := (⟨"com/example/archive_packager/archivepackager/LocaleCharsetLostBytesPinLaw", "draw", "(I)C"⟩ : MethodName)) (ybytes := method_2_code) (ymax := 1) (yret := (some .char)) (yrm := ({ frames := 0, cells := 0, slots := 0, locals := 0 } : Room)) (by decide +kernel) (hw _ (List.mem_of_getElem? (i := 1) rfl)) (hw _ (List.mem_of_getElem? (i := 2) rfl)) (hw _ (List.mem_of_getElem? (i := 3) rfl)) (hw _ (List.mem_of_getElem? (i := 4) rfl)) (by decide) [.int y2] [] (k_dr l wd y2 P1.old ) (le_ _ _ rfl) (W := 0) (le_ _ _ rfl) (by decide +kernel : parseMethodDescriptor "(I)C" = some ⟨[.int], some .char⟩) rfl rfl rfl (le_ _ _ rfl) (le_ _ _ rfl) (le_ _ _ rfl) (pc' := 18) rfl (fun T2 h2 v2 P2 Q2 => ?_)
  replace P2 := P2.more (k' := 0) (n' := 0) (le_ _ _ rfl) (le_ _ _ rfl)
  obtain ⟨d2, rfl, I2, rfl⟩ := Q2
  refine blk C P2 [.istore 7, .iload_n 3] (by decide +kernel) (pc' := 21) (L' := [.val (.int y0), .val (.int y1), .val (.int y2), .val (.int y3), .val (.int y4), .val (.int (1 : Int32)), .val (.int d1), .val (.int d2), .unset, .unset, .unset, .unset]) (S' := [.int y3]) rfl ?_
  refine c_static C P2 (idx := 10) (y := (⟨"com/example/archive_packager/archivepackager/LocaleCharsetLostBytesPinLaw", "draw", "(I)C"⟩ : MethodName)) (ybytes := method_2_code) (ymax := 1) (yret := (some .char)) (yrm := ({ frames := 0, cells := 0, slots := 0, locals := 0 } : Room)) (by decide +kernel) (hw _ (List.mem_of_getElem? (i := 1) rfl)) (hw _ (List.mem_of_getElem? (i := 2) rfl)) (hw _ (List.mem_of_getElem? (i := 3) rfl)) (hw _ (List.mem_of_getElem? (i := 4) rfl)) (by decide) [.int y3] [] (k_dr l wd y3 P2.old ) (le_ _ _ rfl) (W := 0) (le_ _ _ rfl) (by decide +kernel : parseMethodDescriptor "(I)C" = some ⟨[.int], some .char⟩) rfl rfl rfl (le_ _ _ rfl) (le_ _ _ rfl) (le_ _ _ rfl) (pc' := 24) rfl (fun T3 h3 v3 P3 Q3 => ?_)
  replace P3 := P3.more (k' := 0) (n' := 0) (le_ _ _ rfl) (le_ _ _ rfl)
  obtain ⟨d3, rfl, I3, rfl⟩ := Q3
  refine blk C P3 [.istore 8, .iload 4] (by decide +kernel) (pc' := 28) (L' := [.val (.int y0), .val (.int y1), .val (.int y2), .val (.int y3), .val (.int y4), .val (.int (1 : Int32)), .val (.int d1), .val (.int d2), .val (.int d3), .unset, .unset, .unset]) (S' := [.int y4]) rfl ?_
  refine c_static C P3 (idx := 10) (y := (⟨"com/example/archive_packager/archivepackager/LocaleCharsetLostBytesPinLaw", "draw", "(I)C"⟩ : MethodName)) (ybytes := method_2_code) (ymax := 1) (yret := (some .char)) (yrm := ({ frames := 0, cells := 0, slots := 0, locals := 0 } : Room)) (by decide +kernel) (hw _ (List.mem_of_getElem? (i := 1) rfl)) (hw _ (List.mem_of_getElem? (i := 2) rfl)) (hw _ (List.mem_of_getElem? (i := 3) rfl)) (hw _ (List.mem_of_getElem? (i := 4) rfl)) (by decide) [.int y4] [] (k_dr l wd y4 P3.old ) (le_ _ _ rfl) (W := 0) (le_ _ _ rfl) (by decide +kernel : parseMethodDescriptor "(I)C" = some ⟨[.int], some .char⟩) rfl rfl rfl (le_ _ _ rfl) (le_ _ _ rfl) (le_ _ _ rfl) (pc' := 31) rfl (fun T4 h4 v4 P4 Q4 => ?_)
  replace P4 := P4.more (k' := 0) (n' := 0) (le_ _ _ rfl) (le_ _ _ rfl)
  obtain ⟨d4, rfl, I4, rfl⟩ := Q4
  refine blk C P4 [.istore 9] (by decide +kernel) (pc' := 33) (L' := [.val (.int y0), .val (.int y1), .val (.int y2), .val (.int y3), .val (.int y4), .val (.int (1 : Int32)), .val (.int d1), .val (.int d2), .val (.int d3), .val (.int d4), .unset, .unset]) (S' := []) rfl ?_
  refine s_new C P4 (idx := 16) (by decide +kernel) (hw _ (List.mem_of_getElem? (i := 6) rfl)) (hw _ (List.mem_of_getElem? (i := 7) rfl)) (hw _ (List.mem_of_getElem? (i := 8) rfl)) (le_ _ _ rfl) (le_ _ _ rfl) (pc' := 36) rfl (fun T5 h5 P5 E5 B5 => ?_)
  replace P5 := P5.more (k' := 1) (n' := 4) (le_ _ _ rfl) (le_ _ _ rfl)
  refine blk C P5 [.dup, .iload 5, .iload 6, .iload 7, .iload 8, .iload 9] (by decide +kernel) (pc' := 47) (L' := [.val (.int y0), .val (.int y1), .val (.int y2), .val (.int y3), .val (.int y4), .val (.int (1 : Int32)), .val (.int d1), .val (.int d2), .val (.int d3), .val (.int d4), .unset, .unset]) (S' := [.int d4, .int d3, .int d2, .int d1, .int (1 : Int32), .ref h.size, .ref h.size]) rfl ?_
  refine c_static C P5 (idx := 18) (y := (⟨"com/example/archive_packager/archivepackager/LocaleCharsetLostBytesPinLaw", "build", "(ICCCC)[C"⟩ : MethodName)) (ybytes := method_3_code) (ymax := 5) (yret := (some (.array .char))) (yrm := ({ frames := 0, cells := 1, slots := 1, locals := 0 } : Room)) (by decide +kernel) (hw _ (List.mem_of_getElem? (i := 9) rfl)) (hw _ (List.mem_of_getElem? (i := 10) rfl)) (hw _ (List.mem_of_getElem? (i := 3) rfl)) (hw _ (List.mem_of_getElem? (i := 11) rfl)) (by decide) [.int (1 : Int32), .int d1, .int d2, .int d3, .int d4] [.ref h.size, .ref h.size] (k_bu1 l wd d1 d2 d3 d4 P5.old I1 I2 I3 I4) (le_ _ _ rfl) (W := 2) (le_ _ _ rfl) (by decide +kernel : parseMethodDescriptor "(ICCCC)[C" = some ⟨[.int, .char, .char, .char, .char], some (.array .char)⟩) rfl rfl rfl (le_ _ _ rfl) (le_ _ _ rfl) (le_ _ _ rfl) (pc' := 50) rfl (fun T6 h6 v6 P6 Q6 => ?_)
  replace P6 := P6.more (k' := 2) (n' := 5) (le_ _ _ rfl) (le_ _ _ rfl)
  obtain ⟨b6, rfl, E6, V6⟩ := Q6
  by_cases q7 : (255 : Int32) < d1
  · skip
    have B9 := (B5.ext E6)
    refine c_special C P6 (idx := 22) (y := (⟨"java/lang/String", "<init>", "([C)V"⟩ : MethodName)) (ybytes := jdk_42_method_3_code) (ymax := 2) (yrm := ({ frames := 5, cells := 2, slots := 3, locals := 74 } : Room)) rfl (by decide +kernel) (hw _ (List.mem_of_getElem? (i := 13) rfl)) (hw _ (List.mem_of_getElem? (i := 14) rfl)) (hw _ (List.mem_of_getElem? (i := 8) rfl)) (hw _ (List.mem_of_getElem? (i := 15) rfl)) (by decide) [.ref b6] [.ref h.size] (k_i1_1 l wd (h.size) b6 d1 P6.old B9 V6 q7 I1) (le_ _ _ rfl) (W := 1) (le_ _ _ rfl) (by decide +kernel : parseMethodDescriptor "([C)V" = some ⟨[(.array .char)], none⟩) rfl rfl rfl (le_ _ _ rfl) (le_ _ _ rfl) (le_ _ _ rfl) (pc' := 53) rfl (fun T8 h8 P8 Q8 => ?_)
    replace P8 := P8.more (k' := 4) (n' := 8) (le_ _ _ rfl) (le_ _ _ rfl)
    obtain ⟨K8, S8⟩ := Q8
    refine blk C P8 [.astore 10, .iload 5, .iconst 1] (by decide +kernel) (pc' := 58) (L' := [.val (.int y0), .val (.int y1), .val (.int y2), .val (.int y3), .val (.int y4), .val (.int (1 : Int32)), .val (.int d1), .val (.int d2), .val (.int d3), .val (.int d4), .val (.ref h.size), .unset]) (S' := [.int (1 : Int32), .int (1 : Int32)]) rfl ?_
    refine b_cmN C P8 (cd := .lt) (o := 10) (by decide +kernel) (pc' := 61) rfl (by decide : ¬ (1 : Int32) < (1 : Int32)) ?_
    refine blk C P8 [.iload 6] (by decide +kernel) (pc' := 63) (L' := [.val (.int y0), .val (.int y1), .val (.int y2), .val (.int y3), .val (.int y4), .val (.int (1 : Int32)), .val (.int d1), .val (.int d2), .val (.int d3), .val (.int d4), .val (.ref h.size), .unset]) (S' := [.int d1]) rfl ?_
    refine s_ldcI C P8 (idx := 7) (by decide +kernel) (hw _ (List.mem_of_getElem? (i := 5) rfl)) (pc' := 65) rfl ?_
    refine b_cm C P8 (cd := .eq) (o := 42) (by decide +kernel) (pc' := 107) (by decide) (pn := 68) rfl (fun (q10 : d1 = (65533 : Int32)) => ?_) (fun (q10 : ¬ d1 = (65533 : Int32)) => ?_)
    · skip
      refine blk C P8 [.iconst 1] (by decide +kernel) (pc' := 108) (L' := [.val (.int y0), .val (.int y1), .val (.int y2), .val (.int y3), .val (.int y4), .val (.int (1 : Int32)), .val (.int d1), .val (.int d2), .val (.int d3), .val (.int d4), .val (.ref h.size), .unset]) (S' := [.int (1 : Int32)]) rfl ?_
      refine b_goto C P8 (o := 4) (by decide +kernel) (pc' := 112) (by decide) ?_
      refine blk C P8 [.istore 11, .aload 10] (by decide +kernel) (pc' := 116) (L' := [.val (.int y0), .val (.int y1), .val (.int y2), .val (.int y3), .val (.int y4), .val (.int (1 : Int32)), .val (.int d1), .val (.int d2), .val (.int d3), .val (.int d4), .val (.ref h.size), .val (.int (1 : Int32))]) (S' := [.ref h.size]) rfl ?_
      refine c_static C P8 (idx := 25) (y := (⟨"com/example/archive_packager/archivepackager/LocaleCharset", "lostBytes", "(Ljava/lang/String;)Z"⟩ : MethodName)) (ybytes := prog_3_method_6_code) (ymax := 1) (yret := (some .boolean)) (yrm := ({ frames := 7, cells := 0, slots := 0, locals := 100 } : Room)) (by decide +kernel) (hw _ (List.mem_of_getElem? (i := 31) rfl)) (hw _ (List.mem_of_getElem? (i := 32) rfl)) (hw _ (List.mem_of_getElem? (i := 33) rfl)) (hw _ (List.mem_of_getElem? (i := 34) rfl)) (by decide) [.ref h.size] [] (k_lw1 l wd (h.size) d1 P8.old S8 I1) (le_ _ _ rfl) (W := 0) (le_ _ _ rfl) (by decide +kernel : parseMethodDescriptor "(Ljava/lang/String;)Z" = some ⟨[(.object "java/lang/String")], some .boolean⟩) rfl rfl rfl (le_ _ _ rfl) (le_ _ _ rfl) (le_ _ _ rfl) (pc' := 119) rfl (fun T11 h11 v11 P11 Q11 => ?_)
      replace P11 := P11.more (k' := 4) (n' := 8) (le_ _ _ rfl) (le_ _ _ rfl)
      obtain ⟨rfl, Q11⟩ := Q11
      rcases Q11 with ⟨rfl, Q11⟩ | ⟨rfl, Q11⟩
      · skip
        refine blk C P11 [.iload 11] (by decide +kernel) (pc' := 121) (L' := [.val (.int y0), .val (.int y1), .val (.int y2), .val (.int y3), .val (.int y4), .val (.int (1 : Int32)), .val (.int d1), .val (.int d2), .val (.int d3), .val (.int d4), .val (.ref h.size), .val (.int (1 : Int32))]) (S' := [.int (1 : Int32), .int (1 : Int32)]) rfl ?_
        refine b_cmN C P11 (cd := .ne) (o := 7) (by decide +kernel) (pc' := 124) rfl (by decide : (1 : Int32) = (1 : Int32)) ?_
        refine blk C P11 [.iconst 1] (by decide +kernel) (pc' := 125) (L' := [.val (.int y0), .val (.int y1), .val (.int y2), .val (.int y3), .val (.int y4), .val (.int (1 : Int32)), .val (.int d1), .val (.int d2), .val (.int d3), .val (.int d4), .val (.ref h.size), .val (.int (1 : Int32))]) (S' := [.int (1 : Int32)]) rfl ?_
        refine b_goto C P11 (o := 4) (by decide +kernel) (pc' := 129) (by decide) ?_
        exact r_int C P11 (ty := .boolean) (by simp) rfl (by decide +kernel) (le_ _ _ rfl) (le_ _ _ rfl) ⟨_, rfl, rfl⟩
      · skip
        exact absurd (lostY q10) Q11
    · skip
      refine blk C P8 [.iload 5, .iconst 2] (by decide +kernel) (pc' := 71) (L' := [.val (.int y0), .val (.int y1), .val (.int y2), .val (.int y3), .val (.int y4), .val (.int (1 : Int32)), .val (.int d1), .val (.int d2), .val (.int d3), .val (.int d4), .val (.ref h.size), .unset]) (S' := [.int (2 : Int32), .int (1 : Int32)]) rfl ?_
      refine b_cmY C P8 (cd := .lt) (o := 10) (by decide +kernel) (pc' := 81) (by decide) (by decide : (1 : Int32) < (2 : Int32)) ?_
      refine blk C P8 [.iload 5, .iconst 3] (by decide +kernel) (pc' := 84) (L' := [.val (.int y0), .val (.int y1), .val (.int y2), .val (.int y3), .val (.int y4), .val (.int (1 : Int32)), .val (.int d1), .val (.int d2), .val (.int d3), .val (.int d4), .val (.ref h.size), .unset]) (S' := [.int (3 : Int32), .int (1 : Int32)]) rfl ?_
      refine b_cmY C P8 (cd := .lt) (o := 10) (by decide +kernel) (pc' := 94) (by decide) (by decide : (1 : Int32) < (3 : Int32)) ?_
      refine blk C P8 [.iload 5, .iconst 4] (by decide +kernel) (pc' := 97) (L' := [.val (.int y0), .val (.int y1), .val (.int y2), .val (.int y3), .val (.int y4), .val (.int (1 : Int32)), .val (.int d1), .val (.int d2), .val (.int d3), .val (.int d4), .val (.ref h.size), .unset]) (S' := [.int (4 : Int32), .int (1 : Int32)]) rfl ?_
      refine b_cmY C P8 (cd := .lt) (o := 14) (by decide +kernel) (pc' := 111) (by decide) (by decide : (1 : Int32) < (4 : Int32)) ?_
      refine blk C P8 [.iconst 0, .istore 11, .aload 10] (by decide +kernel) (pc' := 116) (L' := [.val (.int y0), .val (.int y1), .val (.int y2), .val (.int y3), .val (.int y4), .val (.int (1 : Int32)), .val (.int d1), .val (.int d2), .val (.int d3), .val (.int d4), .val (.ref h.size), .val (.int (0 : Int32))]) (S' := [.ref h.size]) rfl ?_
      refine c_static C P8 (idx := 25) (y := (⟨"com/example/archive_packager/archivepackager/LocaleCharset", "lostBytes", "(Ljava/lang/String;)Z"⟩ : MethodName)) (ybytes := prog_3_method_6_code) (ymax := 1) (yret := (some .boolean)) (yrm := ({ frames := 7, cells := 0, slots := 0, locals := 100 } : Room)) (by decide +kernel) (hw _ (List.mem_of_getElem? (i := 31) rfl)) (hw _ (List.mem_of_getElem? (i := 32) rfl)) (hw _ (List.mem_of_getElem? (i := 33) rfl)) (hw _ (List.mem_of_getElem? (i := 34) rfl)) (by decide) [.ref h.size] [] (k_lw1 l wd (h.size) d1 P8.old S8 I1) (le_ _ _ rfl) (W := 0) (le_ _ _ rfl) (by decide +kernel : parseMethodDescriptor "(Ljava/lang/String;)Z" = some ⟨[(.object "java/lang/String")], some .boolean⟩) rfl rfl rfl (le_ _ _ rfl) (le_ _ _ rfl) (le_ _ _ rfl) (pc' := 119) rfl (fun T12 h12 v12 P12 Q12 => ?_)
      replace P12 := P12.more (k' := 4) (n' := 8) (le_ _ _ rfl) (le_ _ _ rfl)
      obtain ⟨rfl, Q12⟩ := Q12
      rcases Q12 with ⟨rfl, Q12⟩ | ⟨rfl, Q12⟩
      · skip
        exact absurd Q12 (lostN q10 lost0)
      · skip
        refine blk C P12 [.iload 11] (by decide +kernel) (pc' := 121) (L' := [.val (.int y0), .val (.int y1), .val (.int y2), .val (.int y3), .val (.int y4), .val (.int (1 : Int32)), .val (.int d1), .val (.int d2), .val (.int d3), .val (.int d4), .val (.ref h.size), .val (.int (0 : Int32))]) (S' := [.int (0 : Int32), .int (0 : Int32)]) rfl ?_
        refine b_cmN C P12 (cd := .ne) (o := 7) (by decide +kernel) (pc' := 124) rfl (by decide : (0 : Int32) = (0 : Int32)) ?_
        refine blk C P12 [.iconst 1] (by decide +kernel) (pc' := 125) (L' := [.val (.int y0), .val (.int y1), .val (.int y2), .val (.int y3), .val (.int y4), .val (.int (1 : Int32)), .val (.int d1), .val (.int d2), .val (.int d3), .val (.int d4), .val (.ref h.size), .val (.int (0 : Int32))]) (S' := [.int (1 : Int32)]) rfl ?_
        refine b_goto C P12 (o := 4) (by decide +kernel) (pc' := 129) (by decide) ?_
        exact r_int C P12 (ty := .boolean) (by simp) rfl (by decide +kernel) (le_ _ _ rfl) (le_ _ _ rfl) ⟨_, rfl, rfl⟩
  · skip
    have B14 := (B5.ext E6)
    refine c_newStr C P6 hw Sz hz (idx := 22) (cs := [d1]) (rest := [.ref h.size]) (W := 1) (by decide +kernel) (hw _ (List.mem_of_getElem? (i := 13) rfl)) (hw _ (List.mem_of_getElem? (i := 14) rfl)) B14 V6 (latS ⟨(c16_rng I1).1, fun z => q7 z⟩ lat0) rfl (le_ _ _ rfl) (le_ _ _ rfl) (le_ _ _ rfl) (le_ _ _ rfl) (le_ _ _ rfl) (pc' := 53) rfl (fun T13 h13 P13 K13 S13 => ?_)
    replace P13 := P13.more (k' := 4) (n' := 10) (le_ _ _ rfl) (le_ _ _ rfl)
    refine blk C P13 [.astore 10, .iload 5, .iconst 1] (by decide +kernel) (pc' := 58) (L' := [.val (.int y0), .val (.int y1), .val (.int y2), .val (.int y3), .val (.int y4), .val (.int (1 : Int32)), .val (.int d1), .val (.int d2), .val (.int d3), .val (.int d4), .val (.ref h.size), .unset]) (S' := [.int (1 : Int32), .int (1 : Int32)]) rfl ?_
    refine b_cmN C P13 (cd := .lt) (o := 10) (by decide +kernel) (pc' := 61) rfl (by decide : ¬ (1 : Int32) < (1 : Int32)) ?_
    refine blk C P13 [.iload 6] (by decide +kernel) (pc' := 63) (L' := [.val (.int y0), .val (.int y1), .val (.int y2), .val (.int y3), .val (.int y4), .val (.int (1 : Int32)), .val (.int d1), .val (.int d2), .val (.int d3), .val (.int d4), .val (.ref h.size), .unset]) (S' := [.int d1]) rfl ?_
    refine s_ldcI C P13 (idx := 7) (by decide +kernel) (hw _ (List.mem_of_getElem? (i := 5) rfl)) (pc' := 65) rfl ?_
    refine b_cmN C P13 (cd := .eq) (o := 42) (by decide +kernel) (pc' := 68) rfl (not65533 (fun z => q7 z)) ?_
    refine blk C P13 [.iload 5, .iconst 2] (by decide +kernel) (pc' := 71) (L' := [.val (.int y0), .val (.int y1), .val (.int y2), .val (.int y3), .val (.int y4), .val (.int (1 : Int32)), .val (.int d1), .val (.int d2), .val (.int d3), .val (.int d4), .val (.ref h.size), .unset]) (S' := [.int (2 : Int32), .int (1 : Int32)]) rfl ?_
    refine b_cmY C P13 (cd := .lt) (o := 10) (by decide +kernel) (pc' := 81) (by decide) (by decide : (1 : Int32) < (2 : Int32)) ?_
    refine blk C P13 [.iload 5, .iconst 3] (by decide +kernel) (pc' := 84) (L' := [.val (.int y0), .val (.int y1), .val (.int y2), .val (.int y3), .val (.int y4), .val (.int (1 : Int32)), .val (.int d1), .val (.int d2), .val (.int d3), .val (.int d4), .val (.ref h.size), .unset]) (S' := [.int (3 : Int32), .int (1 : Int32)]) rfl ?_
    refine b_cmY C P13 (cd := .lt) (o := 10) (by decide +kernel) (pc' := 94) (by decide) (by decide : (1 : Int32) < (3 : Int32)) ?_
    refine blk C P13 [.iload 5, .iconst 4] (by decide +kernel) (pc' := 97) (L' := [.val (.int y0), .val (.int y1), .val (.int y2), .val (.int y3), .val (.int y4), .val (.int (1 : Int32)), .val (.int d1), .val (.int d2), .val (.int d3), .val (.int d4), .val (.ref h.size), .unset]) (S' := [.int (4 : Int32), .int (1 : Int32)]) rfl ?_
    refine b_cmY C P13 (cd := .lt) (o := 14) (by decide +kernel) (pc' := 111) (by decide) (by decide : (1 : Int32) < (4 : Int32)) ?_
    refine blk C P13 [.iconst 0, .istore 11, .aload 10] (by decide +kernel) (pc' := 116) (L' := [.val (.int y0), .val (.int y1), .val (.int y2), .val (.int y3), .val (.int y4), .val (.int (1 : Int32)), .val (.int d1), .val (.int d2), .val (.int d3), .val (.int d4), .val (.ref h.size), .val (.int (0 : Int32))]) (S' := [.ref h.size]) rfl ?_
    refine c_static C P13 (idx := 25) (y := (⟨"com/example/archive_packager/archivepackager/LocaleCharset", "lostBytes", "(Ljava/lang/String;)Z"⟩ : MethodName)) (ybytes := prog_3_method_6_code) (ymax := 1) (yret := (some .boolean)) (yrm := ({ frames := 4, cells := 0, slots := 0, locals := 55 } : Room)) (by decide +kernel) (hw _ (List.mem_of_getElem? (i := 31) rfl)) (hw _ (List.mem_of_getElem? (i := 32) rfl)) (hw _ (List.mem_of_getElem? (i := 33) rfl)) (hw _ (List.mem_of_getElem? (i := 34) rfl)) (by decide) [.ref h.size] [] (k_ll l wd (h.size) P13.old S13) (le_ _ _ rfl) (W := 0) (le_ _ _ rfl) (by decide +kernel : parseMethodDescriptor "(Ljava/lang/String;)Z" = some ⟨[(.object "java/lang/String")], some .boolean⟩) rfl rfl rfl (le_ _ _ rfl) (le_ _ _ rfl) (le_ _ _ rfl) (pc' := 119) rfl (fun T15 h15 v15 P15 Q15 => ?_)
    replace P15 := P15.more (k' := 4) (n' := 10) (le_ _ _ rfl) (le_ _ _ rfl)
    obtain ⟨rfl, rfl⟩ := Q15
    refine blk C P15 [.iload 11] (by decide +kernel) (pc' := 121) (L' := [.val (.int y0), .val (.int y1), .val (.int y2), .val (.int y3), .val (.int y4), .val (.int (1 : Int32)), .val (.int d1), .val (.int d2), .val (.int d3), .val (.int d4), .val (.ref h.size), .val (.int (0 : Int32))]) (S' := [.int (0 : Int32), .int (0 : Int32)]) rfl ?_
    refine b_cmN C P15 (cd := .ne) (o := 7) (by decide +kernel) (pc' := 124) rfl (by decide : (0 : Int32) = (0 : Int32)) ?_
    refine blk C P15 [.iconst 1] (by decide +kernel) (pc' := 125) (L' := [.val (.int y0), .val (.int y1), .val (.int y2), .val (.int y3), .val (.int y4), .val (.int (1 : Int32)), .val (.int d1), .val (.int d2), .val (.int d3), .val (.int d4), .val (.ref h.size), .val (.int (0 : Int32))]) (S' := [.int (1 : Int32)]) rfl ?_
    refine b_goto C P15 (o := 4) (by decide +kernel) (pc' := 129) (by decide) ?_
    exact r_int C P15 (ty := .boolean) (by simp) rfl (by decide +kernel) (le_ _ _ rfl) (le_ _ _ rfl) ⟨_, rfl, rfl⟩
set_option maxRecDepth 65536 in
set_option maxHeartbeats 4000000 in
theorem t6_2 (l : Launch) {Z : State} {a0 : Array Value} {n0 : Nat} {h : Heap} {z : Int32} {fm : Value} (wd : Wd Z a0 z fm) (y0 y1 y2 y3 y4 : Int32)  {p : Program} {e : Env} {s : State} {m : MethodId} {args : Array Value} {below : List Frame} {meth : Method} {c : Code} {T : State} (C : Ctx Z a0 consts_1 p s m meth c "com/example/archive_packager/archivepackager/LocaleCharsetLostBytesPinLaw" "law" code 12 (some .boolean)) (P : Pos Z consts_1 n0 p l e room_1 s m args below meth c T h 0 0)  :
    Jvm.Own.Run p.tables e below (Jvm.Own.Ends Z consts_1 n0 room_1 below (Ret1 fun v h' => v = .int 1) s) T (fr m 6 [.val (.int y0), .val (.int y1), .val (.int y2), .val (.int y3), .val (.int y4), .unset, .unset, .unset, .unset, .unset, .unset, .unset] [.int (2 : Int32)]) := by
  obtain ⟨hw, hEL, Sz, hz, SA, SH, SL, SF, hfm⟩ := id wd
  have wS : ∀ a ∈ Bundle.stringAtoms, a.before a0 Z = true := fun d hd => hw d ((by decide +kernel : ∀ d ∈ Bundle.stringAtoms, d ∈ tables_1) d hd)
  refine blk C P [.istore 5, .iload_n 1] (by decide +kernel) (pc' := 9) (L' := [.val (.int y0), .val (.int y1), .val (.int y2), .val (.int y3), .val (.int y4), .val (.int (2 : Int32)), .unset, .unset, .unset, .unset, .unset, .unset]) (S' := [.int y1]) rfl ?_
  refine c_static C P (idx := 10) (y := (⟨"com/example/archive_packager/archivepackager/LocaleCharsetLostBytesPinLaw", "draw", "(I)C"⟩ : MethodName)) (ybytes := method_2_code) (ymax := 1) (yret := (some .char)) (yrm := ({ frames := 0, cells := 0, slots := 0, locals := 0 } : Room)) (by decide +kernel) (hw _ (List.mem_of_getElem? (i := 1) rfl)) (hw _ (List.mem_of_getElem? (i := 2) rfl)) (hw _ (List.mem_of_getElem? (i := 3) rfl)) (hw _ (List.mem_of_getElem? (i := 4) rfl)) (by decide) [.int y1] [] (k_dr l wd y1 P.old ) (le_ _ _ rfl) (W := 0) (le_ _ _ rfl) (by decide +kernel : parseMethodDescriptor "(I)C" = some ⟨[.int], some .char⟩) rfl rfl rfl (le_ _ _ rfl) (le_ _ _ rfl) (le_ _ _ rfl) (pc' := 12) rfl (fun T1 h1 v1 P1 Q1 => ?_)
  replace P1 := P1.more (k' := 0) (n' := 0) (le_ _ _ rfl) (le_ _ _ rfl)
  obtain ⟨d1, rfl, I1, rfl⟩ := Q1
  refine blk C P1 [.istore 6, .iload_n 2] (by decide +kernel) (pc' := 15) (L' := [.val (.int y0), .val (.int y1), .val (.int y2), .val (.int y3), .val (.int y4), .val (.int (2 : Int32)), .val (.int d1), .unset, .unset, .unset, .unset, .unset]) (S' := [.int y2]) rfl ?_
  refine c_static C P1 (idx := 10) (y := (⟨"com/example/archive_packager/archivepackager/LocaleCharsetLostBytesPinLaw", "draw", "(I)C"⟩ : MethodName)) (ybytes := method_2_code) (ymax := 1) (yret := (some .char)) (yrm := ({ frames := 0, cells := 0, slots := 0, locals := 0 } : Room)) (by decide +kernel) (hw _ (List.mem_of_getElem? (i := 1) rfl)) (hw _ (List.mem_of_getElem? (i := 2) rfl)) (hw _ (List.mem_of_getElem? (i := 3) rfl)) (hw _ (List.mem_of_getElem? (i := 4) rfl)) (by decide) [.int y2] [] (k_dr l wd y2 P1.old ) (le_ _ _ rfl) (W := 0) (le_ _ _ rfl) (by decide +kernel : parseMethodDescriptor "(I)C" = some ⟨[.int], some .char⟩) rfl rfl rfl (le_ _ _ rfl) (le_ _ _ rfl) (le_ _ _ rfl) (pc' := 18) rfl (fun T2 h2 v2 P2 Q2 => ?_)
  replace P2 := P2.more (k' := 0) (n' := 0) (le_ _ _ rfl) (le_ _ _ rfl)
  obtain ⟨d2, rfl, I2, rfl⟩ := Q2
  refine blk C P2 [.istore 7, .iload_n 3] (by decide +kernel) (pc' := 21) (L' := [.val (.int y0), .val (.int y1), .val (.int y2), .val (.int y3), .val (.int y4), .val (.int (2 : Int32)), .val (.int d1), .val (.int d2), .unset, .unset, .unset, .unset]) (S' := [.int y3]) rfl ?_
  refine c_static C P2 (idx := 10) (y := (⟨"com/example/archive_packager/archivepackager/LocaleCharsetLostBytesPinLaw", "draw", "(I)C"⟩ : MethodName)) (ybytes := method_2_code) (ymax := 1) (yret := (some .char)) (yrm := ({ frames := 0, cells := 0, slots := 0, locals := 0 } : Room)) (by decide +kernel) (hw _ (List.mem_of_getElem? (i := 1) rfl)) (hw _ (List.mem_of_getElem? (i := 2) rfl)) (hw _ (List.mem_of_getElem? (i := 3) rfl)) (hw _ (List.mem_of_getElem? (i := 4) rfl)) (by decide) [.int y3] [] (k_dr l wd y3 P2.old ) (le_ _ _ rfl) (W := 0) (le_ _ _ rfl) (by decide +kernel : parseMethodDescriptor "(I)C" = some ⟨[.int], some .char⟩) rfl rfl rfl (le_ _ _ rfl) (le_ _ _ rfl) (le_ _ _ rfl) (pc' := 24) rfl (fun T3 h3 v3 P3 Q3 => ?_)
  replace P3 := P3.more (k' := 0) (n' := 0) (le_ _ _ rfl) (le_ _ _ rfl)
  obtain ⟨d3, rfl, I3, rfl⟩ := Q3
  refine blk C P3 [.istore 8, .iload 4] (by decide +kernel) (pc' := 28) (L' := [.val (.int y0), .val (.int y1), .val (.int y2), .val (.int y3), .val (.int y4), .val (.int (2 : Int32)), .val (.int d1), .val (.int d2), .val (.int d3), .unset, .unset, .unset]) (S' := [.int y4]) rfl ?_
  refine c_static C P3 (idx := 10) (y := (⟨"com/example/archive_packager/archivepackager/LocaleCharsetLostBytesPinLaw", "draw", "(I)C"⟩ : MethodName)) (ybytes := method_2_code) (ymax := 1) (yret := (some .char)) (yrm := ({ frames := 0, cells := 0, slots := 0, locals := 0 } : Room)) (by decide +kernel) (hw _ (List.mem_of_getElem? (i := 1) rfl)) (hw _ (List.mem_of_getElem? (i := 2) rfl)) (hw _ (List.mem_of_getElem? (i := 3) rfl)) (hw _ (List.mem_of_getElem? (i := 4) rfl)) (by decide) [.int y4] [] (k_dr l wd y4 P3.old ) (le_ _ _ rfl) (W := 0) (le_ _ _ rfl) (by decide +kernel : parseMethodDescriptor "(I)C" = some ⟨[.int], some .char⟩) rfl rfl rfl (le_ _ _ rfl) (le_ _ _ rfl) (le_ _ _ rfl) (pc' := 31) rfl (fun T4 h4 v4 P4 Q4 => ?_)
  replace P4 := P4.more (k' := 0) (n' := 0) (le_ _ _ rfl) (le_ _ _ rfl)
  obtain ⟨d4, rfl, I4, rfl⟩ := Q4
  refine blk C P4 [.istore 9] (by decide +kernel) (pc' := 33) (L' := [.val (.int y0), .val (.int y1), .val (.int y2), .val (.int y3), .val (.int y4), .val (.int (2 : Int32)), .val (.int d1), .val (.int d2), .val (.int d3), .val (.int d4), .unset, .unset]) (S' := []) rfl ?_
  refine s_new C P4 (idx := 16) (by decide +kernel) (hw _ (List.mem_of_getElem? (i := 6) rfl)) (hw _ (List.mem_of_getElem? (i := 7) rfl)) (hw _ (List.mem_of_getElem? (i := 8) rfl)) (le_ _ _ rfl) (le_ _ _ rfl) (pc' := 36) rfl (fun T5 h5 P5 E5 B5 => ?_)
  replace P5 := P5.more (k' := 1) (n' := 4) (le_ _ _ rfl) (le_ _ _ rfl)
  refine blk C P5 [.dup, .iload 5, .iload 6, .iload 7, .iload 8, .iload 9] (by decide +kernel) (pc' := 47) (L' := [.val (.int y0), .val (.int y1), .val (.int y2), .val (.int y3), .val (.int y4), .val (.int (2 : Int32)), .val (.int d1), .val (.int d2), .val (.int d3), .val (.int d4), .unset, .unset]) (S' := [.int d4, .int d3, .int d2, .int d1, .int (2 : Int32), .ref h.size, .ref h.size]) rfl ?_
  refine c_static C P5 (idx := 18) (y := (⟨"com/example/archive_packager/archivepackager/LocaleCharsetLostBytesPinLaw", "build", "(ICCCC)[C"⟩ : MethodName)) (ybytes := method_3_code) (ymax := 5) (yret := (some (.array .char))) (yrm := ({ frames := 0, cells := 1, slots := 2, locals := 0 } : Room)) (by decide +kernel) (hw _ (List.mem_of_getElem? (i := 9) rfl)) (hw _ (List.mem_of_getElem? (i := 10) rfl)) (hw _ (List.mem_of_getElem? (i := 3) rfl)) (hw _ (List.mem_of_getElem? (i := 11) rfl)) (by decide) [.int (2 : Int32), .int d1, .int d2, .int d3, .int d4] [.ref h.size, .ref h.size] (k_bu2 l wd d1 d2 d3 d4 P5.old I1 I2 I3 I4) (le_ _ _ rfl) (W := 2) (le_ _ _ rfl) (by decide +kernel : parseMethodDescriptor "(ICCCC)[C" = some ⟨[.int, .char, .char, .char, .char], some (.array .char)⟩) rfl rfl rfl (le_ _ _ rfl) (le_ _ _ rfl) (le_ _ _ rfl) (pc' := 50) rfl (fun T6 h6 v6 P6 Q6 => ?_)
  replace P6 := P6.more (k' := 2) (n' := 6) (le_ _ _ rfl) (le_ _ _ rfl)
  obtain ⟨b6, rfl, E6, V6⟩ := Q6
  by_cases q7 : (255 : Int32) < d1 ∨ (255 : Int32) < d2
  · skip
    have B9 := (B5.ext E6)
    refine c_special C P6 (idx := 22) (y := (⟨"java/lang/String", "<init>", "([C)V"⟩ : MethodName)) (ybytes := jdk_42_method_3_code) (ymax := 2) (yrm := ({ frames := 5, cells := 2, slots := 6, locals := 74 } : Room)) rfl (by decide +kernel) (hw _ (List.mem_of_getElem? (i := 13) rfl)) (hw _ (List.mem_of_getElem? (i := 14) rfl)) (hw _ (List.mem_of_getElem? (i := 8) rfl)) (hw _ (List.mem_of_getElem? (i := 15) rfl)) (by decide) [.ref b6] [.ref h.size] (k_i1_2 l wd (h.size) b6 d1 d2 P6.old B9 V6 q7 I1 I2) (le_ _ _ rfl) (W := 1) (le_ _ _ rfl) (by decide +kernel : parseMethodDescriptor "([C)V" = some ⟨[(.array .char)], none⟩) rfl rfl rfl (le_ _ _ rfl) (le_ _ _ rfl) (le_ _ _ rfl) (pc' := 53) rfl (fun T8 h8 P8 Q8 => ?_)
    replace P8 := P8.more (k' := 4) (n' := 12) (le_ _ _ rfl) (le_ _ _ rfl)
    obtain ⟨K8, S8⟩ := Q8
    refine blk C P8 [.astore 10, .iload 5, .iconst 1] (by decide +kernel) (pc' := 58) (L' := [.val (.int y0), .val (.int y1), .val (.int y2), .val (.int y3), .val (.int y4), .val (.int (2 : Int32)), .val (.int d1), .val (.int d2), .val (.int d3), .val (.int d4), .val (.ref h.size), .unset]) (S' := [.int (1 : Int32), .int (2 : Int32)]) rfl ?_
    refine b_cmN C P8 (cd := .lt) (o := 10) (by decide +kernel) (pc' := 61) rfl (by decide : ¬ (2 : Int32) < (1 : Int32)) ?_
    refine blk C P8 [.iload 6] (by decide +kernel) (pc' := 63) (L' := [.val (.int y0), .val (.int y1), .val (.int y2), .val (.int y3), .val (.int y4), .val (.int (2 : Int32)), .val (.int d1), .val (.int d2), .val (.int d3), .val (.int d4), .val (.ref h.size), .unset]) (S' := [.int d1]) rfl ?_
    refine s_ldcI C P8 (idx := 7) (by decide +kernel) (hw _ (List.mem_of_getElem? (i := 5) rfl)) (pc' := 65) rfl ?_
    refine b_cm C P8 (cd := .eq) (o := 42) (by decide +kernel) (pc' := 107) (by decide) (pn := 68) rfl (fun (q10 : d1 = (65533 : Int32)) => ?_) (fun (q10 : ¬ d1 = (65533 : Int32)) => ?_)
    · skip
      refine blk C P8 [.iconst 1] (by decide +kernel) (pc' := 108) (L' := [.val (.int y0), .val (.int y1), .val (.int y2), .val (.int y3), .val (.int y4), .val (.int (2 : Int32)), .val (.int d1), .val (.int d2), .val (.int d3), .val (.int d4), .val (.ref h.size), .unset]) (S' := [.int (1 : Int32)]) rfl ?_
      refine b_goto C P8 (o := 4) (by decide +kernel) (pc' := 112) (by decide) ?_
      refine blk C P8 [.istore 11, .aload 10] (by decide +kernel) (pc' := 116) (L' := [.val (.int y0), .val (.int y1), .val (.int y2), .val (.int y3), .val (.int y4), .val (.int (2 : Int32)), .val (.int d1), .val (.int d2), .val (.int d3), .val (.int d4), .val (.ref h.size), .val (.int (1 : Int32))]) (S' := [.ref h.size]) rfl ?_
      refine c_static C P8 (idx := 25) (y := (⟨"com/example/archive_packager/archivepackager/LocaleCharset", "lostBytes", "(Ljava/lang/String;)Z"⟩ : MethodName)) (ybytes := prog_3_method_6_code) (ymax := 1) (yret := (some .boolean)) (yrm := ({ frames := 7, cells := 0, slots := 0, locals := 100 } : Room)) (by decide +kernel) (hw _ (List.mem_of_getElem? (i := 31) rfl)) (hw _ (List.mem_of_getElem? (i := 32) rfl)) (hw _ (List.mem_of_getElem? (i := 33) rfl)) (hw _ (List.mem_of_getElem? (i := 34) rfl)) (by decide) [.ref h.size] [] (k_lw2 l wd (h.size) d1 d2 P8.old S8 I1 I2) (le_ _ _ rfl) (W := 0) (le_ _ _ rfl) (by decide +kernel : parseMethodDescriptor "(Ljava/lang/String;)Z" = some ⟨[(.object "java/lang/String")], some .boolean⟩) rfl rfl rfl (le_ _ _ rfl) (le_ _ _ rfl) (le_ _ _ rfl) (pc' := 119) rfl (fun T11 h11 v11 P11 Q11 => ?_)
      replace P11 := P11.more (k' := 4) (n' := 12) (le_ _ _ rfl) (le_ _ _ rfl)
      obtain ⟨rfl, Q11⟩ := Q11
      rcases Q11 with ⟨rfl, Q11⟩ | ⟨rfl, Q11⟩
      · skip
        refine blk C P11 [.iload 11] (by decide +kernel) (pc' := 121) (L' := [.val (.int y0), .val (.int y1), .val (.int y2), .val (.int y3), .val (.int y4), .val (.int (2 : Int32)), .val (.int d1), .val (.int d2), .val (.int d3), .val (.int d4), .val (.ref h.size), .val (.int (1 : Int32))]) (S' := [.int (1 : Int32), .int (1 : Int32)]) rfl ?_
        refine b_cmN C P11 (cd := .ne) (o := 7) (by decide +kernel) (pc' := 124) rfl (by decide : (1 : Int32) = (1 : Int32)) ?_
        refine blk C P11 [.iconst 1] (by decide +kernel) (pc' := 125) (L' := [.val (.int y0), .val (.int y1), .val (.int y2), .val (.int y3), .val (.int y4), .val (.int (2 : Int32)), .val (.int d1), .val (.int d2), .val (.int d3), .val (.int d4), .val (.ref h.size), .val (.int (1 : Int32))]) (S' := [.int (1 : Int32)]) rfl ?_
        refine b_goto C P11 (o := 4) (by decide +kernel) (pc' := 129) (by decide) ?_
        exact r_int C P11 (ty := .boolean) (by simp) rfl (by decide +kernel) (le_ _ _ rfl) (le_ _ _ rfl) ⟨_, rfl, rfl⟩
      · skip
        exact absurd (lostY q10) Q11
    · skip
      refine blk C P8 [.iload 5, .iconst 2] (by decide +kernel) (pc' := 71) (L' := [.val (.int y0), .val (.int y1), .val (.int y2), .val (.int y3), .val (.int y4), .val (.int (2 : Int32)), .val (.int d1), .val (.int d2), .val (.int d3), .val (.int d4), .val (.ref h.size), .unset]) (S' := [.int (2 : Int32), .int (2 : Int32)]) rfl ?_
      refine b_cmN C P8 (cd := .lt) (o := 10) (by decide +kernel) (pc' := 74) rfl (by decide : ¬ (2 : Int32) < (2 : Int32)) ?_
      refine blk C P8 [.iload 7] (by decide +kernel) (pc' := 76) (L' := [.val (.int y0), .val (.int y1), .val (.int y2), .val (.int y3), .val (.int y4), .val (.int (2 : Int32)), .val (.int d1), .val (.int d2), .val (.int d3), .val (.int d4), .val (.ref h.size), .unset]) (S' := [.int d2]) rfl ?_
      refine s_ldcI C P8 (idx := 7) (by decide +kernel) (hw _ (List.mem_of_getElem? (i := 5) rfl)) (pc' := 78) rfl ?_
      refine b_cm C P8 (cd := .eq) (o := 29) (by decide +kernel) (pc' := 107) (by decide) (pn := 81) rfl (fun (q12 : d2 = (65533 : Int32)) => ?_) (fun (q12 : ¬ d2 = (65533 : Int32)) => ?_)
      · skip
        refine blk C P8 [.iconst 1] (by decide +kernel) (pc' := 108) (L' := [.val (.int y0), .val (.int y1), .val (.int y2), .val (.int y3), .val (.int y4), .val (.int (2 : Int32)), .val (.int d1), .val (.int d2), .val (.int d3), .val (.int d4), .val (.ref h.size), .unset]) (S' := [.int (1 : Int32)]) rfl ?_
        refine b_goto C P8 (o := 4) (by decide +kernel) (pc' := 112) (by decide) ?_
        refine blk C P8 [.istore 11, .aload 10] (by decide +kernel) (pc' := 116) (L' := [.val (.int y0), .val (.int y1), .val (.int y2), .val (.int y3), .val (.int y4), .val (.int (2 : Int32)), .val (.int d1), .val (.int d2), .val (.int d3), .val (.int d4), .val (.ref h.size), .val (.int (1 : Int32))]) (S' := [.ref h.size]) rfl ?_
        refine c_static C P8 (idx := 25) (y := (⟨"com/example/archive_packager/archivepackager/LocaleCharset", "lostBytes", "(Ljava/lang/String;)Z"⟩ : MethodName)) (ybytes := prog_3_method_6_code) (ymax := 1) (yret := (some .boolean)) (yrm := ({ frames := 7, cells := 0, slots := 0, locals := 100 } : Room)) (by decide +kernel) (hw _ (List.mem_of_getElem? (i := 31) rfl)) (hw _ (List.mem_of_getElem? (i := 32) rfl)) (hw _ (List.mem_of_getElem? (i := 33) rfl)) (hw _ (List.mem_of_getElem? (i := 34) rfl)) (by decide) [.ref h.size] [] (k_lw2 l wd (h.size) d1 d2 P8.old S8 I1 I2) (le_ _ _ rfl) (W := 0) (le_ _ _ rfl) (by decide +kernel : parseMethodDescriptor "(Ljava/lang/String;)Z" = some ⟨[(.object "java/lang/String")], some .boolean⟩) rfl rfl rfl (le_ _ _ rfl) (le_ _ _ rfl) (le_ _ _ rfl) (pc' := 119) rfl (fun T13 h13 v13 P13 Q13 => ?_)
        replace P13 := P13.more (k' := 4) (n' := 12) (le_ _ _ rfl) (le_ _ _ rfl)
        obtain ⟨rfl, Q13⟩ := Q13
        rcases Q13 with ⟨rfl, Q13⟩ | ⟨rfl, Q13⟩
        · skip
          refine blk C P13 [.iload 11] (by decide +kernel) (pc' := 121) (L' := [.val (.int y0), .val (.int y1), .val (.int y2), .val (.int y3), .val (.int y4), .val (.int (2 : Int32)), .val (.int d1), .val (.int d2), .val (.int d3), .val (.int d4), .val (.ref h.size), .val (.int (1 : Int32))]) (S' := [.int (1 : Int32), .int (1 : Int32)]) rfl ?_
          refine b_cmN C P13 (cd := .ne) (o := 7) (by decide +kernel) (pc' := 124) rfl (by decide : (1 : Int32) = (1 : Int32)) ?_
          refine blk C P13 [.iconst 1] (by decide +kernel) (pc' := 125) (L' := [.val (.int y0), .val (.int y1), .val (.int y2), .val (.int y3), .val (.int y4), .val (.int (2 : Int32)), .val (.int d1), .val (.int d2), .val (.int d3), .val (.int d4), .val (.ref h.size), .val (.int (1 : Int32))]) (S' := [.int (1 : Int32)]) rfl ?_
          refine b_goto C P13 (o := 4) (by decide +kernel) (pc' := 129) (by decide) ?_
          exact r_int C P13 (ty := .boolean) (by simp) rfl (by decide +kernel) (le_ _ _ rfl) (le_ _ _ rfl) ⟨_, rfl, rfl⟩
        · skip
          exact absurd (lostS (lostY q12)) Q13
      · skip
        refine blk C P8 [.iload 5, .iconst 3] (by decide +kernel) (pc' := 84) (L' := [.val (.int y0), .val (.int y1), .val (.int y2), .val (.int y3), .val (.int y4), .val (.int (2 : Int32)), .val (.int d1), .val (.int d2), .val (.int d3), .val (.int d4), .val (.ref h.size), .unset]) (S' := [.int (3 : Int32), .int (2 : Int32)]) rfl ?_
        refine b_cmY C P8 (cd := .lt) (o := 10) (by decide +kernel) (pc' := 94) (by decide) (by decide : (2 : Int32) < (3 : Int32)) ?_
        refine blk C P8 [.iload 5, .iconst 4] (by decide +kernel) (pc' := 97) (L' := [.val (.int y0), .val (.int y1), .val (.int y2), .val (.int y3), .val (.int y4), .val (.int (2 : Int32)), .val (.int d1), .val (.int d2), .val (.int d3), .val (.int d4), .val (.ref h.size), .unset]) (S' := [.int (4 : Int32), .int (2 : Int32)]) rfl ?_
        refine b_cmY C P8 (cd := .lt) (o := 14) (by decide +kernel) (pc' := 111) (by decide) (by decide : (2 : Int32) < (4 : Int32)) ?_
        refine blk C P8 [.iconst 0, .istore 11, .aload 10] (by decide +kernel) (pc' := 116) (L' := [.val (.int y0), .val (.int y1), .val (.int y2), .val (.int y3), .val (.int y4), .val (.int (2 : Int32)), .val (.int d1), .val (.int d2), .val (.int d3), .val (.int d4), .val (.ref h.size), .val (.int (0 : Int32))]) (S' := [.ref h.size]) rfl ?_
        refine c_static C P8 (idx := 25) (y := (⟨"com/example/archive_packager/archivepackager/LocaleCharset", "lostBytes", "(Ljava/lang/String;)Z"⟩ : MethodName)) (ybytes := prog_3_method_6_code) (ymax := 1) (yret := (some .boolean)) (yrm := ({ frames := 7, cells := 0, slots := 0, locals := 100 } : Room)) (by decide +kernel) (hw _ (List.mem_of_getElem? (i := 31) rfl)) (hw _ (List.mem_of_getElem? (i := 32) rfl)) (hw _ (List.mem_of_getElem? (i := 33) rfl)) (hw _ (List.mem_of_getElem? (i := 34) rfl)) (by decide) [.ref h.size] [] (k_lw2 l wd (h.size) d1 d2 P8.old S8 I1 I2) (le_ _ _ rfl) (W := 0) (le_ _ _ rfl) (by decide +kernel : parseMethodDescriptor "(Ljava/lang/String;)Z" = some ⟨[(.object "java/lang/String")], some .boolean⟩) rfl rfl rfl (le_ _ _ rfl) (le_ _ _ rfl) (le_ _ _ rfl) (pc' := 119) rfl (fun T14 h14 v14 P14 Q14 => ?_)
        replace P14 := P14.more (k' := 4) (n' := 12) (le_ _ _ rfl) (le_ _ _ rfl)
        obtain ⟨rfl, Q14⟩ := Q14
        rcases Q14 with ⟨rfl, Q14⟩ | ⟨rfl, Q14⟩
        · skip
          exact absurd Q14 (lostN q10 (lostN q12 lost0))
        · skip
          refine blk C P14 [.iload 11] (by decide +kernel) (pc' := 121) (L' := [.val (.int y0), .val (.int y1), .val (.int y2), .val (.int y3), .val (.int y4), .val (.int (2 : Int32)), .val (.int d1), .val (.int d2), .val (.int d3), .val (.int d4), .val (.ref h.size), .val (.int (0 : Int32))]) (S' := [.int (0 : Int32), .int (0 : Int32)]) rfl ?_
          refine b_cmN C P14 (cd := .ne) (o := 7) (by decide +kernel) (pc' := 124) rfl (by decide : (0 : Int32) = (0 : Int32)) ?_
          refine blk C P14 [.iconst 1] (by decide +kernel) (pc' := 125) (L' := [.val (.int y0), .val (.int y1), .val (.int y2), .val (.int y3), .val (.int y4), .val (.int (2 : Int32)), .val (.int d1), .val (.int d2), .val (.int d3), .val (.int d4), .val (.ref h.size), .val (.int (0 : Int32))]) (S' := [.int (1 : Int32)]) rfl ?_
          refine b_goto C P14 (o := 4) (by decide +kernel) (pc' := 129) (by decide) ?_
          exact r_int C P14 (ty := .boolean) (by simp) rfl (by decide +kernel) (le_ _ _ rfl) (le_ _ _ rfl) ⟨_, rfl, rfl⟩
  · skip
    have B16 := (B5.ext E6)
    refine c_newStr C P6 hw Sz hz (idx := 22) (cs := [d1, d2]) (rest := [.ref h.size]) (W := 1) (by decide +kernel) (hw _ (List.mem_of_getElem? (i := 13) rfl)) (hw _ (List.mem_of_getElem? (i := 14) rfl)) B16 V6 (latS ⟨(c16_rng I1).1, fun z => q7 (Or.inl z)⟩ (latS ⟨(c16_rng I2).1, fun z => q7 (Or.inr z)⟩ lat0)) rfl (le_ _ _ rfl) (le_ _ _ rfl) (le_ _ _ rfl) (le_ _ _ rfl) (le_ _ _ rfl) (pc' := 53) rfl (fun T15 h15 P15 K15 S15 => ?_)
    replace P15 := P15.more (k' := 4) (n' := 12) (le_ _ _ rfl) (le_ _ _ rfl)
    refine blk C P15 [.astore 10, .iload 5, .iconst 1] (by decide +kernel) (pc' := 58) (L' := [.val (.int y0), .val (.int y1), .val (.int y2), .val (.int y3), .val (.int y4), .val (.int (2 : Int32)), .val (.int d1), .val (.int d2), .val (.int d3), .val (.int d4), .val (.ref h.size), .unset]) (S' := [.int (1 : Int32), .int (2 : Int32)]) rfl ?_
    refine b_cmN C P15 (cd := .lt) (o := 10) (by decide +kernel) (pc' := 61) rfl (by decide : ¬ (2 : Int32) < (1 : Int32)) ?_
    refine blk C P15 [.iload 6] (by decide +kernel) (pc' := 63) (L' := [.val (.int y0), .val (.int y1), .val (.int y2), .val (.int y3), .val (.int y4), .val (.int (2 : Int32)), .val (.int d1), .val (.int d2), .val (.int d3), .val (.int d4), .val (.ref h.size), .unset]) (S' := [.int d1]) rfl ?_
    refine s_ldcI C P15 (idx := 7) (by decide +kernel) (hw _ (List.mem_of_getElem? (i := 5) rfl)) (pc' := 65) rfl ?_
    refine b_cmN C P15 (cd := .eq) (o := 42) (by decide +kernel) (pc' := 68) rfl (not65533 (fun z => q7 (Or.inl z))) ?_
    refine blk C P15 [.iload 5, .iconst 2] (by decide +kernel) (pc' := 71) (L' := [.val (.int y0), .val (.int y1), .val (.int y2), .val (.int y3), .val (.int y4), .val (.int (2 : Int32)), .val (.int d1), .val (.int d2), .val (.int d3), .val (.int d4), .val (.ref h.size), .unset]) (S' := [.int (2 : Int32), .int (2 : Int32)]) rfl ?_
    refine b_cmN C P15 (cd := .lt) (o := 10) (by decide +kernel) (pc' := 74) rfl (by decide : ¬ (2 : Int32) < (2 : Int32)) ?_
    refine blk C P15 [.iload 7] (by decide +kernel) (pc' := 76) (L' := [.val (.int y0), .val (.int y1), .val (.int y2), .val (.int y3), .val (.int y4), .val (.int (2 : Int32)), .val (.int d1), .val (.int d2), .val (.int d3), .val (.int d4), .val (.ref h.size), .unset]) (S' := [.int d2]) rfl ?_
    refine s_ldcI C P15 (idx := 7) (by decide +kernel) (hw _ (List.mem_of_getElem? (i := 5) rfl)) (pc' := 78) rfl ?_
    refine b_cmN C P15 (cd := .eq) (o := 29) (by decide +kernel) (pc' := 81) rfl (not65533 (fun z => q7 (Or.inr z))) ?_
    refine blk C P15 [.iload 5, .iconst 3] (by decide +kernel) (pc' := 84) (L' := [.val (.int y0), .val (.int y1), .val (.int y2), .val (.int y3), .val (.int y4), .val (.int (2 : Int32)), .val (.int d1), .val (.int d2), .val (.int d3), .val (.int d4), .val (.ref h.size), .unset]) (S' := [.int (3 : Int32), .int (2 : Int32)]) rfl ?_
    refine b_cmY C P15 (cd := .lt) (o := 10) (by decide +kernel) (pc' := 94) (by decide) (by decide : (2 : Int32) < (3 : Int32)) ?_
    refine blk C P15 [.iload 5, .iconst 4] (by decide +kernel) (pc' := 97) (L' := [.val (.int y0), .val (.int y1), .val (.int y2), .val (.int y3), .val (.int y4), .val (.int (2 : Int32)), .val (.int d1), .val (.int d2), .val (.int d3), .val (.int d4), .val (.ref h.size), .unset]) (S' := [.int (4 : Int32), .int (2 : Int32)]) rfl ?_
    refine b_cmY C P15 (cd := .lt) (o := 14) (by decide +kernel) (pc' := 111) (by decide) (by decide : (2 : Int32) < (4 : Int32)) ?_
    refine blk C P15 [.iconst 0, .istore 11, .aload 10] (by decide +kernel) (pc' := 116) (L' := [.val (.int y0), .val (.int y1), .val (.int y2), .val (.int y3), .val (.int y4), .val (.int (2 : Int32)), .val (.int d1), .val (.int d2), .val (.int d3), .val (.int d4), .val (.ref h.size), .val (.int (0 : Int32))]) (S' := [.ref h.size]) rfl ?_
    refine c_static C P15 (idx := 25) (y := (⟨"com/example/archive_packager/archivepackager/LocaleCharset", "lostBytes", "(Ljava/lang/String;)Z"⟩ : MethodName)) (ybytes := prog_3_method_6_code) (ymax := 1) (yret := (some .boolean)) (yrm := ({ frames := 4, cells := 0, slots := 0, locals := 55 } : Room)) (by decide +kernel) (hw _ (List.mem_of_getElem? (i := 31) rfl)) (hw _ (List.mem_of_getElem? (i := 32) rfl)) (hw _ (List.mem_of_getElem? (i := 33) rfl)) (hw _ (List.mem_of_getElem? (i := 34) rfl)) (by decide) [.ref h.size] [] (k_ll l wd (h.size) P15.old S15) (le_ _ _ rfl) (W := 0) (le_ _ _ rfl) (by decide +kernel : parseMethodDescriptor "(Ljava/lang/String;)Z" = some ⟨[(.object "java/lang/String")], some .boolean⟩) rfl rfl rfl (le_ _ _ rfl) (le_ _ _ rfl) (le_ _ _ rfl) (pc' := 119) rfl (fun T17 h17 v17 P17 Q17 => ?_)
    replace P17 := P17.more (k' := 4) (n' := 12) (le_ _ _ rfl) (le_ _ _ rfl)
    obtain ⟨rfl, rfl⟩ := Q17
    refine blk C P17 [.iload 11] (by decide +kernel) (pc' := 121) (L' := [.val (.int y0), .val (.int y1), .val (.int y2), .val (.int y3), .val (.int y4), .val (.int (2 : Int32)), .val (.int d1), .val (.int d2), .val (.int d3), .val (.int d4), .val (.ref h.size), .val (.int (0 : Int32))]) (S' := [.int (0 : Int32), .int (0 : Int32)]) rfl ?_
    refine b_cmN C P17 (cd := .ne) (o := 7) (by decide +kernel) (pc' := 124) rfl (by decide : (0 : Int32) = (0 : Int32)) ?_
    refine blk C P17 [.iconst 1] (by decide +kernel) (pc' := 125) (L' := [.val (.int y0), .val (.int y1), .val (.int y2), .val (.int y3), .val (.int y4), .val (.int (2 : Int32)), .val (.int d1), .val (.int d2), .val (.int d3), .val (.int d4), .val (.ref h.size), .val (.int (0 : Int32))]) (S' := [.int (1 : Int32)]) rfl ?_
    refine b_goto C P17 (o := 4) (by decide +kernel) (pc' := 129) (by decide) ?_
    exact r_int C P17 (ty := .boolean) (by simp) rfl (by decide +kernel) (le_ _ _ rfl) (le_ _ _ rfl) ⟨_, rfl, rfl⟩
set_option maxRecDepth 65536 in
set_option maxHeartbeats 4000000 in
theorem t6_3 (l : Launch) {Z : State} {a0 : Array Value} {n0 : Nat} {h : Heap} {z : Int32} {fm : Value} (wd : Wd Z a0 z fm) (y0 y1 y2 y3 y4 : Int32)  {p : Program} {e : Env} {s : State} {m : MethodId} {args : Array Value} {below : List Frame} {meth : Method} {c : Code} {T : State} (C : Ctx Z a0 consts_1 p s m meth c "com/example/archive_packager/archivepackager/LocaleCharsetLostBytesPinLaw" "law" code 12 (some .boolean)) (P : Pos Z consts_1 n0 p l e room_1 s m args below meth c T h 0 0)  :
    Jvm.Own.Run p.tables e below (Jvm.Own.Ends Z consts_1 n0 room_1 below (Ret1 fun v h' => v = .int 1) s) T (fr m 6 [.val (.int y0), .val (.int y1), .val (.int y2), .val (.int y3), .val (.int y4), .unset, .unset, .unset, .unset, .unset, .unset, .unset] [.int (3 : Int32)]) := by
  obtain ⟨hw, hEL, Sz, hz, SA, SH, SL, SF, hfm⟩ := id wd
  have wS : ∀ a ∈ Bundle.stringAtoms, a.before a0 Z = true := fun d hd => hw d ((by decide +kernel : ∀ d ∈ Bundle.stringAtoms, d ∈ tables_1) d hd)
  refine blk C P [.istore 5, .iload_n 1] (by decide +kernel) (pc' := 9) (L' := [.val (.int y0), .val (.int y1), .val (.int y2), .val (.int y3), .val (.int y4), .val (.int (3 : Int32)), .unset, .unset, .unset, .unset, .unset, .unset]) (S' := [.int y1]) rfl ?_
  refine c_static C P (idx := 10) (y := (⟨"com/example/archive_packager/archivepackager/LocaleCharsetLostBytesPinLaw", "draw", "(I)C"⟩ : MethodName)) (ybytes := method_2_code) (ymax := 1) (yret := (some .char)) (yrm := ({ frames := 0, cells := 0, slots := 0, locals := 0 } : Room)) (by decide +kernel) (hw _ (List.mem_of_getElem? (i := 1) rfl)) (hw _ (List.mem_of_getElem? (i := 2) rfl)) (hw _ (List.mem_of_getElem? (i := 3) rfl)) (hw _ (List.mem_of_getElem? (i := 4) rfl)) (by decide) [.int y1] [] (k_dr l wd y1 P.old ) (le_ _ _ rfl) (W := 0) (le_ _ _ rfl) (by decide +kernel : parseMethodDescriptor "(I)C" = some ⟨[.int], some .char⟩) rfl rfl rfl (le_ _ _ rfl) (le_ _ _ rfl) (le_ _ _ rfl) (pc' := 12) rfl (fun T1 h1 v1 P1 Q1 => ?_)
  replace P1 := P1.more (k' := 0) (n' := 0) (le_ _ _ rfl) (le_ _ _ rfl)
  obtain ⟨d1, rfl, I1, rfl⟩ := Q1
  refine blk C P1 [.istore 6, .iload_n 2] (by decide +kernel) (pc' := 15) (L' := [.val (.int y0), .val (.int y1), .val (.int y2), .val (.int y3), .val (.int y4), .val (.int (3 : Int32)), .val (.int d1), .unset, .unset, .unset, .unset, .unset]) (S' := [.int y2]) rfl ?_
  refine c_static C P1 (idx := 10) (y := (⟨"com/example/archive_packager/archivepackager/LocaleCharsetLostBytesPinLaw", "draw", "(I)C"⟩ : MethodName)) (ybytes := method_2_code) (ymax := 1) (yret := (some .char)) (yrm := ({ frames := 0, cells := 0, slots := 0, locals := 0 } : Room)) (by decide +kernel) (hw _ (List.mem_of_getElem? (i := 1) rfl)) (hw _ (List.mem_of_getElem? (i := 2) rfl)) (hw _ (List.mem_of_getElem? (i := 3) rfl)) (hw _ (List.mem_of_getElem? (i := 4) rfl)) (by decide) [.int y2] [] (k_dr l wd y2 P1.old ) (le_ _ _ rfl) (W := 0) (le_ _ _ rfl) (by decide +kernel : parseMethodDescriptor "(I)C" = some ⟨[.int], some .char⟩) rfl rfl rfl (le_ _ _ rfl) (le_ _ _ rfl) (le_ _ _ rfl) (pc' := 18) rfl (fun T2 h2 v2 P2 Q2 => ?_)
  replace P2 := P2.more (k' := 0) (n' := 0) (le_ _ _ rfl) (le_ _ _ rfl)
  obtain ⟨d2, rfl, I2, rfl⟩ := Q2
  refine blk C P2 [.istore 7, .iload_n 3] (by decide +kernel) (pc' := 21) (L' := [.val (.int y0), .val (.int y1), .val (.int y2), .val (.int y3), .val (.int y4), .val (.int (3 : Int32)), .val (.int d1), .val (.int d2), .unset, .unset, .unset, .unset]) (S' := [.int y3]) rfl ?_
  refine c_static C P2 (idx := 10) (y := (⟨"com/example/archive_packager/archivepackager/LocaleCharsetLostBytesPinLaw", "draw", "(I)C"⟩ : MethodName)) (ybytes := method_2_code) (ymax := 1) (yret := (some .char)) (yrm := ({ frames := 0, cells := 0, slots := 0, locals := 0 } : Room)) (by decide +kernel) (hw _ (List.mem_of_getElem? (i := 1) rfl)) (hw _ (List.mem_of_getElem? (i := 2) rfl)) (hw _ (List.mem_of_getElem? (i := 3) rfl)) (hw _ (List.mem_of_getElem? (i := 4) rfl)) (by decide) [.int y3] [] (k_dr l wd y3 P2.old ) (le_ _ _ rfl) (W := 0) (le_ _ _ rfl) (by decide +kernel : parseMethodDescriptor "(I)C" = some ⟨[.int], some .char⟩) rfl rfl rfl (le_ _ _ rfl) (le_ _ _ rfl) (le_ _ _ rfl) (pc' := 24) rfl (fun T3 h3 v3 P3 Q3 => ?_)
  replace P3 := P3.more (k' := 0) (n' := 0) (le_ _ _ rfl) (le_ _ _ rfl)
  obtain ⟨d3, rfl, I3, rfl⟩ := Q3
  refine blk C P3 [.istore 8, .iload 4] (by decide +kernel) (pc' := 28) (L' := [.val (.int y0), .val (.int y1), .val (.int y2), .val (.int y3), .val (.int y4), .val (.int (3 : Int32)), .val (.int d1), .val (.int d2), .val (.int d3), .unset, .unset, .unset]) (S' := [.int y4]) rfl ?_
  refine c_static C P3 (idx := 10) (y := (⟨"com/example/archive_packager/archivepackager/LocaleCharsetLostBytesPinLaw", "draw", "(I)C"⟩ : MethodName)) (ybytes := method_2_code) (ymax := 1) (yret := (some .char)) (yrm := ({ frames := 0, cells := 0, slots := 0, locals := 0 } : Room)) (by decide +kernel) (hw _ (List.mem_of_getElem? (i := 1) rfl)) (hw _ (List.mem_of_getElem? (i := 2) rfl)) (hw _ (List.mem_of_getElem? (i := 3) rfl)) (hw _ (List.mem_of_getElem? (i := 4) rfl)) (by decide) [.int y4] [] (k_dr l wd y4 P3.old ) (le_ _ _ rfl) (W := 0) (le_ _ _ rfl) (by decide +kernel : parseMethodDescriptor "(I)C" = some ⟨[.int], some .char⟩) rfl rfl rfl (le_ _ _ rfl) (le_ _ _ rfl) (le_ _ _ rfl) (pc' := 31) rfl (fun T4 h4 v4 P4 Q4 => ?_)
  replace P4 := P4.more (k' := 0) (n' := 0) (le_ _ _ rfl) (le_ _ _ rfl)
  obtain ⟨d4, rfl, I4, rfl⟩ := Q4
  refine blk C P4 [.istore 9] (by decide +kernel) (pc' := 33) (L' := [.val (.int y0), .val (.int y1), .val (.int y2), .val (.int y3), .val (.int y4), .val (.int (3 : Int32)), .val (.int d1), .val (.int d2), .val (.int d3), .val (.int d4), .unset, .unset]) (S' := []) rfl ?_
  refine s_new C P4 (idx := 16) (by decide +kernel) (hw _ (List.mem_of_getElem? (i := 6) rfl)) (hw _ (List.mem_of_getElem? (i := 7) rfl)) (hw _ (List.mem_of_getElem? (i := 8) rfl)) (le_ _ _ rfl) (le_ _ _ rfl) (pc' := 36) rfl (fun T5 h5 P5 E5 B5 => ?_)
  replace P5 := P5.more (k' := 1) (n' := 4) (le_ _ _ rfl) (le_ _ _ rfl)
  refine blk C P5 [.dup, .iload 5, .iload 6, .iload 7, .iload 8, .iload 9] (by decide +kernel) (pc' := 47) (L' := [.val (.int y0), .val (.int y1), .val (.int y2), .val (.int y3), .val (.int y4), .val (.int (3 : Int32)), .val (.int d1), .val (.int d2), .val (.int d3), .val (.int d4), .unset, .unset]) (S' := [.int d4, .int d3, .int d2, .int d1, .int (3 : Int32), .ref h.size, .ref h.size]) rfl ?_
  refine c_static C P5 (idx := 18) (y := (⟨"com/example/archive_packager/archivepackager/LocaleCharsetLostBytesPinLaw", "build", "(ICCCC)[C"⟩ : MethodName)) (ybytes := method_3_code) (ymax := 5) (yret := (some (.array .char))) (yrm := ({ frames := 0, cells := 1, slots := 3, locals := 0 } : Room)) (by decide +kernel) (hw _ (List.mem_of_getElem? (i := 9) rfl)) (hw _ (List.mem_of_getElem? (i := 10) rfl)) (hw _ (List.mem_of_getElem? (i := 3) rfl)) (hw _ (List.mem_of_getElem? (i := 11) rfl)) (by decide) [.int (3 : Int32), .int d1, .int d2, .int d3, .int d4] [.ref h.size, .ref h.size] (k_bu3 l wd d1 d2 d3 d4 P5.old I1 I2 I3 I4) (le_ _ _ rfl) (W := 2) (le_ _ _ rfl) (by decide +kernel : parseMethodDescriptor "(ICCCC)[C" = some ⟨[.int, .char, .char, .char, .char], some (.array .char)⟩) rfl rfl rfl (le_ _ _ rfl) (le_ _ _ rfl) (le_ _ _ rfl) (pc' := 50) rfl (fun T6 h6 v6 P6 Q6 => ?_)
  replace P6 := P6.more (k' := 2) (n' := 7) (le_ _ _ rfl) (le_ _ _ rfl)
  obtain ⟨b6, rfl, E6, V6⟩ := Q6
  by_cases q7 : (255 : Int32) < d1 ∨ (255 : Int32) < d2 ∨ (255 : Int32) < d3
  · skip
    have B9 := (B5.ext E6)
    refine c_special C P6 (idx := 22) (y := (⟨"java/lang/String", "<init>", "([C)V"⟩ : MethodName)) (ybytes := jdk_42_method_3_code) (ymax := 2) (yrm := ({ frames := 5, cells := 2, slots := 9, locals := 74 } : Room)) rfl (by decide +kernel) (hw _ (List.mem_of_getElem? (i := 13) rfl)) (hw _ (List.mem_of_getElem? (i := 14) rfl)) (hw _ (List.mem_of_getElem? (i := 8) rfl)) (hw _ (List.mem_of_getElem? (i := 15) rfl)) (by decide) [.ref b6] [.ref h.size] (k_i1_3 l wd (h.size) b6 d1 d2 d3 P6.old B9 V6 q7 I1 I2 I3) (le_ _ _ rfl) (W := 1) (le_ _ _ rfl) (by decide +kernel : parseMethodDescriptor "([C)V" = some ⟨[(.array .char)], none⟩) rfl rfl rfl (le_ _ _ rfl) (le_ _ _ rfl) (le_ _ _ rfl) (pc' := 53) rfl (fun T8 h8 P8 Q8 => ?_)
    replace P8 := P8.more (k' := 4) (n' := 16) (le_ _ _ rfl) (le_ _ _ rfl)
    obtain ⟨K8, S8⟩ := Q8
    refine blk C P8 [.astore 10, .iload 5, .iconst 1] (by decide +kernel) (pc' := 58) (L' := [.val (.int y0), .val (.int y1), .val (.int y2), .val (.int y3), .val (.int y4), .val (.int (3 : Int32)), .val (.int d1), .val (.int d2), .val (.int d3), .val (.int d4), .val (.ref h.size), .unset]) (S' := [.int (1 : Int32), .int (3 : Int32)]) rfl ?_
    refine b_cmN C P8 (cd := .lt) (o := 10) (by decide +kernel) (pc' := 61) rfl (by decide : ¬ (3 : Int32) < (1 : Int32)) ?_
    refine blk C P8 [.iload 6] (by decide +kernel) (pc' := 63) (L' := [.val (.int y0), .val (.int y1), .val (.int y2), .val (.int y3), .val (.int y4), .val (.int (3 : Int32)), .val (.int d1), .val (.int d2), .val (.int d3), .val (.int d4), .val (.ref h.size), .unset]) (S' := [.int d1]) rfl ?_
    refine s_ldcI C P8 (idx := 7) (by decide +kernel) (hw _ (List.mem_of_getElem? (i := 5) rfl)) (pc' := 65) rfl ?_
    refine b_cm C P8 (cd := .eq) (o := 42) (by decide +kernel) (pc' := 107) (by decide) (pn := 68) rfl (fun (q10 : d1 = (65533 : Int32)) => ?_) (fun (q10 : ¬ d1 = (65533 : Int32)) => ?_)
    · skip
      refine blk C P8 [.iconst 1] (by decide +kernel) (pc' := 108) (L' := [.val (.int y0), .val (.int y1), .val (.int y2), .val (.int y3), .val (.int y4), .val (.int (3 : Int32)), .val (.int d1), .val (.int d2), .val (.int d3), .val (.int d4), .val (.ref h.size), .unset]) (S' := [.int (1 : Int32)]) rfl ?_
      refine b_goto C P8 (o := 4) (by decide +kernel) (pc' := 112) (by decide) ?_
      refine blk C P8 [.istore 11, .aload 10] (by decide +kernel) (pc' := 116) (L' := [.val (.int y0), .val (.int y1), .val (.int y2), .val (.int y3), .val (.int y4), .val (.int (3 : Int32)), .val (.int d1), .val (.int d2), .val (.int d3), .val (.int d4), .val (.ref h.size), .val (.int (1 : Int32))]) (S' := [.ref h.size]) rfl ?_
      refine c_static C P8 (idx := 25) (y := (⟨"com/example/archive_packager/archivepackager/LocaleCharset", "lostBytes", "(Ljava/lang/String;)Z"⟩ : MethodName)) (ybytes := prog_3_method_6_code) (ymax := 1) (yret := (some .boolean)) (yrm := ({ frames := 7, cells := 0, slots := 0, locals := 100 } : Room)) (by decide +kernel) (hw _ (List.mem_of_getElem? (i := 31) rfl)) (hw _ (List.mem_of_getElem? (i := 32) rfl)) (hw _ (List.mem_of_getElem? (i := 33) rfl)) (hw _ (List.mem_of_getElem? (i := 34) rfl)) (by decide) [.ref h.size] [] (k_lw3 l wd (h.size) d1 d2 d3 P8.old S8 I1 I2 I3) (le_ _ _ rfl) (W := 0) (le_ _ _ rfl) (by decide +kernel : parseMethodDescriptor "(Ljava/lang/String;)Z" = some ⟨[(.object "java/lang/String")], some .boolean⟩) rfl rfl rfl (le_ _ _ rfl) (le_ _ _ rfl) (le_ _ _ rfl) (pc' := 119) rfl (fun T11 h11 v11 P11 Q11 => ?_)
      replace P11 := P11.more (k' := 4) (n' := 16) (le_ _ _ rfl) (le_ _ _ rfl)
      obtain ⟨rfl, Q11⟩ := Q11
      rcases Q11 with ⟨rfl, Q11⟩ | ⟨rfl, Q11⟩
      · skip
        refine blk C P11 [.iload 11] (by decide +kernel) (pc' := 121) (L' := [.val (.int y0), .val (.int y1), .val (.int y2), .val (.int y3), .val (.int y4), .val (.int (3 : Int32)), .val (.int d1), .val (.int d2), .val (.int d3), .val (.int d4), .val (.ref h.size), .val (.int (1 : Int32))]) (S' := [.int (1 : Int32), .int (1 : Int32)]) rfl ?_
        refine b_cmN C P11 (cd := .ne) (o := 7) (by decide +kernel) (pc' := 124) rfl (by decide : (1 : Int32) = (1 : Int32)) ?_
        refine blk C P11 [.iconst 1] (by decide +kernel) (pc' := 125) (L' := [.val (.int y0), .val (.int y1), .val (.int y2), .val (.int y3), .val (.int y4), .val (.int (3 : Int32)), .val (.int d1), .val (.int d2), .val (.int d3), .val (.int d4), .val (.ref h.size), .val (.int (1 : Int32))]) (S' := [.int (1 : Int32)]) rfl ?_
        refine b_goto C P11 (o := 4) (by decide +kernel) (pc' := 129) (by decide) ?_
        exact r_int C P11 (ty := .boolean) (by simp) rfl (by decide +kernel) (le_ _ _ rfl) (le_ _ _ rfl) ⟨_, rfl, rfl⟩
      · skip
        exact absurd (lostY q10) Q11
    · skip
      refine blk C P8 [.iload 5, .iconst 2] (by decide +kernel) (pc' := 71) (L' := [.val (.int y0), .val (.int y1), .val (.int y2), .val (.int y3), .val (.int y4), .val (.int (3 : Int32)), .val (.int d1), .val (.int d2), .val (.int d3), .val (.int d4), .val (.ref h.size), .unset]) (S' := [.int (2 : Int32), .int (3 : Int32)]) rfl ?_
      refine b_cmN C P8 (cd := .lt) (o := 10) (by decide +kernel) (pc' := 74) rfl (by decide : ¬ (3 : Int32) < (2 : Int32)) ?_
      refine blk C P8 [.iload 7] (by decide +kernel) (pc' := 76) (L' := [.val (.int y0), .val (.int y1), .val (.int y2), .val (.int y3), .val (.int y4), .val (.int (3 : Int32)), .val (.int d1), .val (.int d2), .val (.int d3), .val (.int d4), .val (.ref h.size), .unset]) (S' := [.int d2]) rfl ?_
      refine s_ldcI C P8 (idx := 7) (by decide +kernel) (hw _ (List.mem_of_getElem? (i := 5) rfl)) (pc' := 78) rfl ?_
      refine b_cm C P8 (cd := .eq) (o := 29) (by decide +kernel) (pc' := 107) (by decide) (pn := 81) rfl (fun (q12 : d2 = (65533 : Int32)) => ?_) (fun (q12 : ¬ d2 = (65533 : Int32)) => ?_)
      · skip
        refine blk C P8 [.iconst 1] (by decide +kernel) (pc' := 108) (L' := [.val (.int y0), .val (.int y1), .val (.int y2), .val (.int y3), .val (.int y4), .val (.int (3 : Int32)), .val (.int d1), .val (.int d2), .val (.int d3), .val (.int d4), .val (.ref h.size), .unset]) (S' := [.int (1 : Int32)]) rfl ?_
        refine b_goto C P8 (o := 4) (by decide +kernel) (pc' := 112) (by decide) ?_
        refine blk C P8 [.istore 11, .aload 10] (by decide +kernel) (pc' := 116) (L' := [.val (.int y0), .val (.int y1), .val (.int y2), .val (.int y3), .val (.int y4), .val (.int (3 : Int32)), .val (.int d1), .val (.int d2), .val (.int d3), .val (.int d4), .val (.ref h.size), .val (.int (1 : Int32))]) (S' := [.ref h.size]) rfl ?_
        refine c_static C P8 (idx := 25) (y := (⟨"com/example/archive_packager/archivepackager/LocaleCharset", "lostBytes", "(Ljava/lang/String;)Z"⟩ : MethodName)) (ybytes := prog_3_method_6_code) (ymax := 1) (yret := (some .boolean)) (yrm := ({ frames := 7, cells := 0, slots := 0, locals := 100 } : Room)) (by decide +kernel) (hw _ (List.mem_of_getElem? (i := 31) rfl)) (hw _ (List.mem_of_getElem? (i := 32) rfl)) (hw _ (List.mem_of_getElem? (i := 33) rfl)) (hw _ (List.mem_of_getElem? (i := 34) rfl)) (by decide) [.ref h.size] [] (k_lw3 l wd (h.size) d1 d2 d3 P8.old S8 I1 I2 I3) (le_ _ _ rfl) (W := 0) (le_ _ _ rfl) (by decide +kernel : parseMethodDescriptor "(Ljava/lang/String;)Z" = some ⟨[(.object "java/lang/String")], some .boolean⟩) rfl rfl rfl (le_ _ _ rfl) (le_ _ _ rfl) (le_ _ _ rfl) (pc' := 119) rfl (fun T13 h13 v13 P13 Q13 => ?_)
        replace P13 := P13.more (k' := 4) (n' := 16) (le_ _ _ rfl) (le_ _ _ rfl)
        obtain ⟨rfl, Q13⟩ := Q13
        rcases Q13 with ⟨rfl, Q13⟩ | ⟨rfl, Q13⟩
        · skip
          refine blk C P13 [.iload 11] (by decide +kernel) (pc' := 121) (L' := [.val (.int y0), .val (.int y1), .val (.int y2), .val (.int y3), .val (.int y4), .val (.int (3 : Int32)), .val (.int d1), .val (.int d2), .val (.int d3), .val (.int d4), .val (.ref h.size), .val (.int (1 : Int32))]) (S' := [.int (1 : Int32), .int (1 : Int32)]) rfl ?_
          refine b_cmN C P13 (cd := .ne) (o := 7) (by decide +kernel) (pc' := 124) rfl (by decide : (1 : Int32) = (1 : Int32)) ?_
          refine blk C P13 [.iconst 1] (by decide +kernel) (pc' := 125) (L' := [.val (.int y0), .val (.int y1), .val (.int y2), .val (.int y3), .val (.int y4), .val (.int (3 : Int32)), .val (.int d1), .val (.int d2), .val (.int d3), .val (.int d4), .val (.ref h.size), .val (.int (1 : Int32))]) (S' := [.int (1 : Int32)]) rfl ?_
          refine b_goto C P13 (o := 4) (by decide +kernel) (pc' := 129) (by decide) ?_
          exact r_int C P13 (ty := .boolean) (by simp) rfl (by decide +kernel) (le_ _ _ rfl) (le_ _ _ rfl) ⟨_, rfl, rfl⟩
        · skip
          exact absurd (lostS (lostY q12)) Q13
      · skip
        refine blk C P8 [.iload 5, .iconst 3] (by decide +kernel) (pc' := 84) (L' := [.val (.int y0), .val (.int y1), .val (.int y2), .val (.int y3), .val (.int y4), .val (.int (3 : Int32)), .val (.int d1), .val (.int d2), .val (.int d3), .val (.int d4), .val (.ref h.size), .unset]) (S' := [.int (3 : Int32), .int (3 : Int32)]) rfl ?_
        refine b_cmN C P8 (cd := .lt) (o := 10) (by decide +kernel) (pc' := 87) rfl (by decide : ¬ (3 : Int32) < (3 : Int32)) ?_
        refine blk C P8 [.iload 8] (by decide +kernel) (pc' := 89) (L' := [.val (.int y0), .val (.int y1), .val (.int y2), .val (.int y3), .val (.int y4), .val (.int (3 : Int32)), .val (.int d1), .val (.int d2), .val (.int d3), .val (.int d4), .val (.ref h.size), .unset]) (S' := [.int d3]) rfl ?_
        refine s_ldcI C P8 (idx := 7) (by decide +kernel) (hw _ (List.mem_of_getElem? (i := 5) rfl)) (pc' := 91) rfl ?_
        refine b_cm C P8 (cd := .eq) (o := 16) (by decide +kernel) (pc' := 107) (by decide) (pn := 94) rfl (fun (q14 : d3 = (65533 : Int32)) => ?_) (fun (q14 : ¬ d3 = (65533 : Int32)) => ?_)
        · skip
          refine blk C P8 [.iconst 1] (by decide +kernel) (pc' := 108) (L' := [.val (.int y0), .val (.int y1), .val (.int y2), .val (.int y3), .val (.int y4), .val (.int (3 : Int32)), .val (.int d1), .val (.int d2), .val (.int d3), .val (.int d4), .val (.ref h.size), .unset]) (S' := [.int (1 : Int32)]) rfl ?_
          refine b_goto C P8 (o := 4) (by decide +kernel) (pc' := 112) (by decide) ?_
          refine blk C P8 [.istore 11, .aload 10] (by decide +kernel) (pc' := 116) (L' := [.val (.int y0), .val (.int y1), .val (.int y2), .val (.int y3), .val (.int y4), .val (.int (3 : Int32)), .val (.int d1), .val (.int d2), .val (.int d3), .val (.int d4), .val (.ref h.size), .val (.int (1 : Int32))]) (S' := [.ref h.size]) rfl ?_
          refine c_static C P8 (idx := 25) (y := (⟨"com/example/archive_packager/archivepackager/LocaleCharset", "lostBytes", "(Ljava/lang/String;)Z"⟩ : MethodName)) (ybytes := prog_3_method_6_code) (ymax := 1) (yret := (some .boolean)) (yrm := ({ frames := 7, cells := 0, slots := 0, locals := 100 } : Room)) (by decide +kernel) (hw _ (List.mem_of_getElem? (i := 31) rfl)) (hw _ (List.mem_of_getElem? (i := 32) rfl)) (hw _ (List.mem_of_getElem? (i := 33) rfl)) (hw _ (List.mem_of_getElem? (i := 34) rfl)) (by decide) [.ref h.size] [] (k_lw3 l wd (h.size) d1 d2 d3 P8.old S8 I1 I2 I3) (le_ _ _ rfl) (W := 0) (le_ _ _ rfl) (by decide +kernel : parseMethodDescriptor "(Ljava/lang/String;)Z" = some ⟨[(.object "java/lang/String")], some .boolean⟩) rfl rfl rfl (le_ _ _ rfl) (le_ _ _ rfl) (le_ _ _ rfl) (pc' := 119) rfl (fun T15 h15 v15 P15 Q15 => ?_)
          replace P15 := P15.more (k' := 4) (n' := 16) (le_ _ _ rfl) (le_ _ _ rfl)
          obtain ⟨rfl, Q15⟩ := Q15
          rcases Q15 with ⟨rfl, Q15⟩ | ⟨rfl, Q15⟩
          · skip
            refine blk C P15 [.iload 11] (by decide +kernel) (pc' := 121) (L' := [.val (.int y0), .val (.int y1), .val (.int y2), .val (.int y3), .val (.int y4), .val (.int (3 : Int32)), .val (.int d1), .val (.int d2), .val (.int d3), .val (.int d4), .val (.ref h.size), .val (.int (1 : Int32))]) (S' := [.int (1 : Int32), .int (1 : Int32)]) rfl ?_
            refine b_cmN C P15 (cd := .ne) (o := 7) (by decide +kernel) (pc' := 124) rfl (by decide : (1 : Int32) = (1 : Int32)) ?_
            refine blk C P15 [.iconst 1] (by decide +kernel) (pc' := 125) (L' := [.val (.int y0), .val (.int y1), .val (.int y2), .val (.int y3), .val (.int y4), .val (.int (3 : Int32)), .val (.int d1), .val (.int d2), .val (.int d3), .val (.int d4), .val (.ref h.size), .val (.int (1 : Int32))]) (S' := [.int (1 : Int32)]) rfl ?_
            refine b_goto C P15 (o := 4) (by decide +kernel) (pc' := 129) (by decide) ?_
            exact r_int C P15 (ty := .boolean) (by simp) rfl (by decide +kernel) (le_ _ _ rfl) (le_ _ _ rfl) ⟨_, rfl, rfl⟩
          · skip
            exact absurd (lostS (lostS (lostY q14))) Q15
        · skip
          refine blk C P8 [.iload 5, .iconst 4] (by decide +kernel) (pc' := 97) (L' := [.val (.int y0), .val (.int y1), .val (.int y2), .val (.int y3), .val (.int y4), .val (.int (3 : Int32)), .val (.int d1), .val (.int d2), .val (.int d3), .val (.int d4), .val (.ref h.size), .unset]) (S' := [.int (4 : Int32), .int (3 : Int32)]) rfl ?_
          refine b_cmY C P8 (cd := .lt) (o := 14) (by decide +kernel) (pc' := 111) (by decide) (by decide : (3 : Int32) < (4 : Int32)) ?_
          refine blk C P8 [.iconst 0, .istore 11, .aload 10] (by decide +kernel) (pc' := 116) (L' := [.val (.int y0), .val (.int y1), .val (.int y2), .val (.int y3), .val (.int y4), .val (.int (3 : Int32)), .val (.int d1), .val (.int d2), .val (.int d3), .val (.int d4), .val (.ref h.size), .val (.int (0 : Int32))]) (S' := [.ref h.size]) rfl ?_
          refine c_static C P8 (idx := 25) (y := (⟨"com/example/archive_packager/archivepackager/LocaleCharset", "lostBytes", "(Ljava/lang/String;)Z"⟩ : MethodName)) (ybytes := prog_3_method_6_code) (ymax := 1) (yret := (some .boolean)) (yrm := ({ frames := 7, cells := 0, slots := 0, locals := 100 } : Room)) (by decide +kernel) (hw _ (List.mem_of_getElem? (i := 31) rfl)) (hw _ (List.mem_of_getElem? (i := 32) rfl)) (hw _ (List.mem_of_getElem? (i := 33) rfl)) (hw _ (List.mem_of_getElem? (i := 34) rfl)) (by decide) [.ref h.size] [] (k_lw3 l wd (h.size) d1 d2 d3 P8.old S8 I1 I2 I3) (le_ _ _ rfl) (W := 0) (le_ _ _ rfl) (by decide +kernel : parseMethodDescriptor "(Ljava/lang/String;)Z" = some ⟨[(.object "java/lang/String")], some .boolean⟩) rfl rfl rfl (le_ _ _ rfl) (le_ _ _ rfl) (le_ _ _ rfl) (pc' := 119) rfl (fun T16 h16 v16 P16 Q16 => ?_)
          replace P16 := P16.more (k' := 4) (n' := 16) (le_ _ _ rfl) (le_ _ _ rfl)
          obtain ⟨rfl, Q16⟩ := Q16
          rcases Q16 with ⟨rfl, Q16⟩ | ⟨rfl, Q16⟩
          · skip
            exact absurd Q16 (lostN q10 (lostN q12 (lostN q14 lost0)))
          · skip
            refine blk C P16 [.iload 11] (by decide +kernel) (pc' := 121) (L' := [.val (.int y0), .val (.int y1), .val (.int y2), .val (.int y3), .val (.int y4), .val (.int (3 : Int32)), .val (.int d1), .val (.int d2), .val (.int d3), .val (.int d4), .val (.ref h.size), .val (.int (0 : Int32))]) (S' := [.int (0 : Int32), .int (0 : Int32)]) rfl ?_
            refine b_cmN C P16 (cd := .ne) (o := 7) (by decide +kernel) (pc' := 124) rfl (by decide : (0 : Int32) = (0 : Int32)) ?_
            refine blk C P16 [.iconst 1] (by decide +kernel) (pc' := 125) (L' := [.val (.int y0), .val (.int y1), .val (.int y2), .val (.int y3), .val (.int y4), .val (.int (3 : Int32)), .val (.int d1), .val (.int d2), .val (.int d3), .val (.int d4), .val (.ref h.size), .val (.int (0 : Int32))]) (S' := [.int (1 : Int32)]) rfl ?_
            refine b_goto C P16 (o := 4) (by decide +kernel) (pc' := 129) (by decide) ?_
            exact r_int C P16 (ty := .boolean) (by simp) rfl (by decide +kernel) (le_ _ _ rfl) (le_ _ _ rfl) ⟨_, rfl, rfl⟩
  · skip
    have B18 := (B5.ext E6)
    refine c_newStr C P6 hw Sz hz (idx := 22) (cs := [d1, d2, d3]) (rest := [.ref h.size]) (W := 1) (by decide +kernel) (hw _ (List.mem_of_getElem? (i := 13) rfl)) (hw _ (List.mem_of_getElem? (i := 14) rfl)) B18 V6 (latS ⟨(c16_rng I1).1, fun z => q7 (Or.inl z)⟩ (latS ⟨(c16_rng I2).1, fun z => q7 (Or.inr (Or.inl z))⟩ (latS ⟨(c16_rng I3).1, fun z => q7 (Or.inr (Or.inr z))⟩ lat0))) rfl (le_ _ _ rfl) (le_ _ _ rfl) (le_ _ _ rfl) (le_ _ _ rfl) (le_ _ _ rfl) (pc' := 53) rfl (fun T17 h17 P17 K17 S17 => ?_)
    replace P17 := P17.more (k' := 4) (n' := 14) (le_ _ _ rfl) (le_ _ _ rfl)
    refine blk C P17 [.astore 10, .iload 5, .iconst 1] (by decide +kernel) (pc' := 58) (L' := [.val (.int y0), .val (.int y1), .val (.int y2), .val (.int y3), .val (.int y4), .val (.int (3 : Int32)), .val (.int d1), .val (.int d2), .val (.int d3), .val (.int d4), .val (.ref h.size), .unset]) (S' := [.int (1 : Int32), .int (3 : Int32)]) rfl ?_
    refine b_cmN C P17 (cd := .lt) (o := 10) (by decide +kernel) (pc' := 61) rfl (by decide : ¬ (3 : Int32) < (1 : Int32)) ?_
    refine blk C P17 [.iload 6] (by decide +kernel) (pc' := 63) (L' := [.val (.int y0), .val (.int y1), .val (.int y2), .val (.int y3), .val (.int y4), .val (.int (3 : Int32)), .val (.int d1), .val (.int d2), .val (.int d3), .val (.int d4), .val (.ref h.size), .unset]) (S' := [.int d1]) rfl ?_
    refine s_ldcI C P17 (idx := 7) (by decide +kernel) (hw _ (List.mem_of_getElem? (i := 5) rfl)) (pc' := 65) rfl ?_
    refine b_cmN C P17 (cd := .eq) (o := 42) (by decide +kernel) (pc' := 68) rfl (not65533 (fun z => q7 (Or.inl z))) ?_
    refine blk C P17 [.iload 5, .iconst 2] (by decide +kernel) (pc' := 71) (L' := [.val (.int y0), .val (.int y1), .val (.int y2), .val (.int y3), .val (.int y4), .val (.int (3 : Int32)), .val (.int d1), .val (.int d2), .val (.int d3), .val (.int d4), .val (.ref h.size), .unset]) (S' := [.int (2 : Int32), .int (3 : Int32)]) rfl ?_
    refine b_cmN C P17 (cd := .lt) (o := 10) (by decide +kernel) (pc' := 74) rfl (by decide : ¬ (3 : Int32) < (2 : Int32)) ?_
    refine blk C P17 [.iload 7] (by decide +kernel) (pc' := 76) (L' := [.val (.int y0), .val (.int y1), .val (.int y2), .val (.int y3), .val (.int y4), .val (.int (3 : Int32)), .val (.int d1), .val (.int d2), .val (.int d3), .val (.int d4), .val (.ref h.size), .unset]) (S' := [.int d2]) rfl ?_
    refine s_ldcI C P17 (idx := 7) (by decide +kernel) (hw _ (List.mem_of_getElem? (i := 5) rfl)) (pc' := 78) rfl ?_
    refine b_cmN C P17 (cd := .eq) (o := 29) (by decide +kernel) (pc' := 81) rfl (not65533 (fun z => q7 (Or.inr (Or.inl z)))) ?_
    refine blk C P17 [.iload 5, .iconst 3] (by decide +kernel) (pc' := 84) (L' := [.val (.int y0), .val (.int y1), .val (.int y2), .val (.int y3), .val (.int y4), .val (.int (3 : Int32)), .val (.int d1), .val (.int d2), .val (.int d3), .val (.int d4), .val (.ref h.size), .unset]) (S' := [.int (3 : Int32), .int (3 : Int32)]) rfl ?_
    refine b_cmN C P17 (cd := .lt) (o := 10) (by decide +kernel) (pc' := 87) rfl (by decide : ¬ (3 : Int32) < (3 : Int32)) ?_
    refine blk C P17 [.iload 8] (by decide +kernel) (pc' := 89) (L' := [.val (.int y0), .val (.int y1), .val (.int y2), .val (.int y3), .val (.int y4), .val (.int (3 : Int32)), .val (.int d1), .val (.int d2), .val (.int d3), .val (.int d4), .val (.ref h.size), .unset]) (S' := [.int d3]) rfl ?_
    refine s_ldcI C P17 (idx := 7) (by decide +kernel) (hw _ (List.mem_of_getElem? (i := 5) rfl)) (pc' := 91) rfl ?_
    refine b_cmN C P17 (cd := .eq) (o := 16) (by decide +kernel) (pc' := 94) rfl (not65533 (fun z => q7 (Or.inr (Or.inr z)))) ?_
    refine blk C P17 [.iload 5, .iconst 4] (by decide +kernel) (pc' := 97) (L' := [.val (.int y0), .val (.int y1), .val (.int y2), .val (.int y3), .val (.int y4), .val (.int (3 : Int32)), .val (.int d1), .val (.int d2), .val (.int d3), .val (.int d4), .val (.ref h.size), .unset]) (S' := [.int (4 : Int32), .int (3 : Int32)]) rfl ?_
    refine b_cmY C P17 (cd := .lt) (o := 14) (by decide +kernel) (pc' := 111) (by decide) (by decide : (3 : Int32) < (4 : Int32)) ?_
    refine blk C P17 [.iconst 0, .istore 11, .aload 10] (by decide +kernel) (pc' := 116) (L' := [.val (.int y0), .val (.int y1), .val (.int y2), .val (.int y3), .val (.int y4), .val (.int (3 : Int32)), .val (.int d1), .val (.int d2), .val (.int d3), .val (.int d4), .val (.ref h.size), .val (.int (0 : Int32))]) (S' := [.ref h.size]) rfl ?_
    refine c_static C P17 (idx := 25) (y := (⟨"com/example/archive_packager/archivepackager/LocaleCharset", "lostBytes", "(Ljava/lang/String;)Z"⟩ : MethodName)) (ybytes := prog_3_method_6_code) (ymax := 1) (yret := (some .boolean)) (yrm := ({ frames := 4, cells := 0, slots := 0, locals := 55 } : Room)) (by decide +kernel) (hw _ (List.mem_of_getElem? (i := 31) rfl)) (hw _ (List.mem_of_getElem? (i := 32) rfl)) (hw _ (List.mem_of_getElem? (i := 33) rfl)) (hw _ (List.mem_of_getElem? (i := 34) rfl)) (by decide) [.ref h.size] [] (k_ll l wd (h.size) P17.old S17) (le_ _ _ rfl) (W := 0) (le_ _ _ rfl) (by decide +kernel : parseMethodDescriptor "(Ljava/lang/String;)Z" = some ⟨[(.object "java/lang/String")], some .boolean⟩) rfl rfl rfl (le_ _ _ rfl) (le_ _ _ rfl) (le_ _ _ rfl) (pc' := 119) rfl (fun T19 h19 v19 P19 Q19 => ?_)
    replace P19 := P19.more (k' := 4) (n' := 14) (le_ _ _ rfl) (le_ _ _ rfl)
    obtain ⟨rfl, rfl⟩ := Q19
    refine blk C P19 [.iload 11] (by decide +kernel) (pc' := 121) (L' := [.val (.int y0), .val (.int y1), .val (.int y2), .val (.int y3), .val (.int y4), .val (.int (3 : Int32)), .val (.int d1), .val (.int d2), .val (.int d3), .val (.int d4), .val (.ref h.size), .val (.int (0 : Int32))]) (S' := [.int (0 : Int32), .int (0 : Int32)]) rfl ?_
    refine b_cmN C P19 (cd := .ne) (o := 7) (by decide +kernel) (pc' := 124) rfl (by decide : (0 : Int32) = (0 : Int32)) ?_
    refine blk C P19 [.iconst 1] (by decide +kernel) (pc' := 125) (L' := [.val (.int y0), .val (.int y1), .val (.int y2), .val (.int y3), .val (.int y4), .val (.int (3 : Int32)), .val (.int d1), .val (.int d2), .val (.int d3), .val (.int d4), .val (.ref h.size), .val (.int (0 : Int32))]) (S' := [.int (1 : Int32)]) rfl ?_
    refine b_goto C P19 (o := 4) (by decide +kernel) (pc' := 129) (by decide) ?_
    exact r_int C P19 (ty := .boolean) (by simp) rfl (by decide +kernel) (le_ _ _ rfl) (le_ _ _ rfl) ⟨_, rfl, rfl⟩
set_option maxRecDepth 65536 in
set_option maxHeartbeats 4000000 in
theorem t6_4 (l : Launch) {Z : State} {a0 : Array Value} {n0 : Nat} {h : Heap} {z : Int32} {fm : Value} (wd : Wd Z a0 z fm) (y0 y1 y2 y3 y4 : Int32)  {p : Program} {e : Env} {s : State} {m : MethodId} {args : Array Value} {below : List Frame} {meth : Method} {c : Code} {T : State} (C : Ctx Z a0 consts_1 p s m meth c "com/example/archive_packager/archivepackager/LocaleCharsetLostBytesPinLaw" "law" code 12 (some .boolean)) (P : Pos Z consts_1 n0 p l e room_1 s m args below meth c T h 0 0)  :
    Jvm.Own.Run p.tables e below (Jvm.Own.Ends Z consts_1 n0 room_1 below (Ret1 fun v h' => v = .int 1) s) T (fr m 6 [.val (.int y0), .val (.int y1), .val (.int y2), .val (.int y3), .val (.int y4), .unset, .unset, .unset, .unset, .unset, .unset, .unset] [.int (4 : Int32)]) := by
  obtain ⟨hw, hEL, Sz, hz, SA, SH, SL, SF, hfm⟩ := id wd
  have wS : ∀ a ∈ Bundle.stringAtoms, a.before a0 Z = true := fun d hd => hw d ((by decide +kernel : ∀ d ∈ Bundle.stringAtoms, d ∈ tables_1) d hd)
  refine blk C P [.istore 5, .iload_n 1] (by decide +kernel) (pc' := 9) (L' := [.val (.int y0), .val (.int y1), .val (.int y2), .val (.int y3), .val (.int y4), .val (.int (4 : Int32)), .unset, .unset, .unset, .unset, .unset, .unset]) (S' := [.int y1]) rfl ?_
  refine c_static C P (idx := 10) (y := (⟨"com/example/archive_packager/archivepackager/LocaleCharsetLostBytesPinLaw", "draw", "(I)C"⟩ : MethodName)) (ybytes := method_2_code) (ymax := 1) (yret := (some .char)) (yrm := ({ frames := 0, cells := 0, slots := 0, locals := 0 } : Room)) (by decide +kernel) (hw _ (List.mem_of_getElem? (i := 1) rfl)) (hw _ (List.mem_of_getElem? (i := 2) rfl)) (hw _ (List.mem_of_getElem? (i := 3) rfl)) (hw _ (List.mem_of_getElem? (i := 4) rfl)) (by decide) [.int y1] [] (k_dr l wd y1 P.old ) (le_ _ _ rfl) (W := 0) (le_ _ _ rfl) (by decide +kernel : parseMethodDescriptor "(I)C" = some ⟨[.int], some .char⟩) rfl rfl rfl (le_ _ _ rfl) (le_ _ _ rfl) (le_ _ _ rfl) (pc' := 12) rfl (fun T1 h1 v1 P1 Q1 => ?_)
  replace P1 := P1.more (k' := 0) (n' := 0) (le_ _ _ rfl) (le_ _ _ rfl)
  obtain ⟨d1, rfl, I1, rfl⟩ := Q1
  refine blk C P1 [.istore 6, .iload_n 2] (by decide +kernel) (pc' := 15) (L' := [.val (.int y0), .val (.int y1), .val (.int y2), .val (.int y3), .val (.int y4), .val (.int (4 : Int32)), .val (.int d1), .unset, .unset, .unset, .unset, .unset]) (S' := [.int y2]) rfl ?_
  refine c_static C P1 (idx := 10) (y := (⟨"com/example/archive_packager/archivepackager/LocaleCharsetLostBytesPinLaw", "draw", "(I)C"⟩ : MethodName)) (ybytes := method_2_code) (ymax := 1) (yret := (some .char)) (yrm := ({ frames := 0, cells := 0, slots := 0, locals := 0 } : Room)) (by decide +kernel) (hw _ (List.mem_of_getElem? (i := 1) rfl)) (hw _ (List.mem_of_getElem? (i := 2) rfl)) (hw _ (List.mem_of_getElem? (i := 3) rfl)) (hw _ (List.mem_of_getElem? (i := 4) rfl)) (by decide) [.int y2] [] (k_dr l wd y2 P1.old ) (le_ _ _ rfl) (W := 0) (le_ _ _ rfl) (by decide +kernel : parseMethodDescriptor "(I)C" = some ⟨[.int], some .char⟩) rfl rfl rfl (le_ _ _ rfl) (le_ _ _ rfl) (le_ _ _ rfl) (pc' := 18) rfl (fun T2 h2 v2 P2 Q2 => ?_)
  replace P2 := P2.more (k' := 0) (n' := 0) (le_ _ _ rfl) (le_ _ _ rfl)
  obtain ⟨d2, rfl, I2, rfl⟩ := Q2
  refine blk C P2 [.istore 7, .iload_n 3] (by decide +kernel) (pc' := 21) (L' := [.val (.int y0), .val (.int y1), .val (.int y2), .val (.int y3), .val (.int y4), .val (.int (4 : Int32)), .val (.int d1), .val (.int d2), .unset, .unset, .unset, .unset]) (S' := [.int y3]) rfl ?_
  refine c_static C P2 (idx := 10) (y := (⟨"com/example/archive_packager/archivepackager/LocaleCharsetLostBytesPinLaw", "draw", "(I)C"⟩ : MethodName)) (ybytes := method_2_code) (ymax := 1) (yret := (some .char)) (yrm := ({ frames := 0, cells := 0, slots := 0, locals := 0 } : Room)) (by decide +kernel) (hw _ (List.mem_of_getElem? (i := 1) rfl)) (hw _ (List.mem_of_getElem? (i := 2) rfl)) (hw _ (List.mem_of_getElem? (i := 3) rfl)) (hw _ (List.mem_of_getElem? (i := 4) rfl)) (by decide) [.int y3] [] (k_dr l wd y3 P2.old ) (le_ _ _ rfl) (W := 0) (le_ _ _ rfl) (by decide +kernel : parseMethodDescriptor "(I)C" = some ⟨[.int], some .char⟩) rfl rfl rfl (le_ _ _ rfl) (le_ _ _ rfl) (le_ _ _ rfl) (pc' := 24) rfl (fun T3 h3 v3 P3 Q3 => ?_)
  replace P3 := P3.more (k' := 0) (n' := 0) (le_ _ _ rfl) (le_ _ _ rfl)
  obtain ⟨d3, rfl, I3, rfl⟩ := Q3
  refine blk C P3 [.istore 8, .iload 4] (by decide +kernel) (pc' := 28) (L' := [.val (.int y0), .val (.int y1), .val (.int y2), .val (.int y3), .val (.int y4), .val (.int (4 : Int32)), .val (.int d1), .val (.int d2), .val (.int d3), .unset, .unset, .unset]) (S' := [.int y4]) rfl ?_
  refine c_static C P3 (idx := 10) (y := (⟨"com/example/archive_packager/archivepackager/LocaleCharsetLostBytesPinLaw", "draw", "(I)C"⟩ : MethodName)) (ybytes := method_2_code) (ymax := 1) (yret := (some .char)) (yrm := ({ frames := 0, cells := 0, slots := 0, locals := 0 } : Room)) (by decide +kernel) (hw _ (List.mem_of_getElem? (i := 1) rfl)) (hw _ (List.mem_of_getElem? (i := 2) rfl)) (hw _ (List.mem_of_getElem? (i := 3) rfl)) (hw _ (List.mem_of_getElem? (i := 4) rfl)) (by decide) [.int y4] [] (k_dr l wd y4 P3.old ) (le_ _ _ rfl) (W := 0) (le_ _ _ rfl) (by decide +kernel : parseMethodDescriptor "(I)C" = some ⟨[.int], some .char⟩) rfl rfl rfl (le_ _ _ rfl) (le_ _ _ rfl) (le_ _ _ rfl) (pc' := 31) rfl (fun T4 h4 v4 P4 Q4 => ?_)
  replace P4 := P4.more (k' := 0) (n' := 0) (le_ _ _ rfl) (le_ _ _ rfl)
  obtain ⟨d4, rfl, I4, rfl⟩ := Q4
  refine blk C P4 [.istore 9] (by decide +kernel) (pc' := 33) (L' := [.val (.int y0), .val (.int y1), .val (.int y2), .val (.int y3), .val (.int y4), .val (.int (4 : Int32)), .val (.int d1), .val (.int d2), .val (.int d3), .val (.int d4), .unset, .unset]) (S' := []) rfl ?_
  refine s_new C P4 (idx := 16) (by decide +kernel) (hw _ (List.mem_of_getElem? (i := 6) rfl)) (hw _ (List.mem_of_getElem? (i := 7) rfl)) (hw _ (List.mem_of_getElem? (i := 8) rfl)) (le_ _ _ rfl) (le_ _ _ rfl) (pc' := 36) rfl (fun T5 h5 P5 E5 B5 => ?_)
  replace P5 := P5.more (k' := 1) (n' := 4) (le_ _ _ rfl) (le_ _ _ rfl)
  refine blk C P5 [.dup, .iload 5, .iload 6, .iload 7, .iload 8, .iload 9] (by decide +kernel) (pc' := 47) (L' := [.val (.int y0), .val (.int y1), .val (.int y2), .val (.int y3), .val (.int y4), .val (.int (4 : Int32)), .val (.int d1), .val (.int d2), .val (.int d3), .val (.int d4), .unset, .unset]) (S' := [.int d4, .int d3, .int d2, .int d1, .int (4 : Int32), .ref h.size, .ref h.size]) rfl ?_
  refine c_static C P5 (idx := 18) (y := (⟨"com/example/archive_packager/archivepackager/LocaleCharsetLostBytesPinLaw", "build", "(ICCCC)[C"⟩ : MethodName)) (ybytes := method_3_code) (ymax := 5) (yret := (some (.array .char))) (yrm := ({ frames := 0, cells := 1, slots := 4, locals := 0 } : Room)) (by decide +kernel) (hw _ (List.mem_of_getElem? (i := 9) rfl)) (hw _ (List.mem_of_getElem? (i := 10) rfl)) (hw _ (List.mem_of_getElem? (i := 3) rfl)) (hw _ (List.mem_of_getElem? (i := 11) rfl)) (by decide) [.int (4 : Int32), .int d1, .int d2, .int d3, .int d4] [.ref h.size, .ref h.size] (k_bu4 l wd d1 d2 d3 d4 P5.old I1 I2 I3 I4) (le_ _ _ rfl) (W := 2) (le_ _ _ rfl) (by decide +kernel : parseMethodDescriptor "(ICCCC)[C" = some ⟨[.int, .char, .char, .char, .char], some (.array .char)⟩) rfl rfl rfl (le_ _ _ rfl) (le_ _ _ rfl) (le_ _ _ rfl) (pc' := 50) rfl (fun T6 h6 v6 P6 Q6 => ?_)
  replace P6 := P6.more (k' := 2) (n' := 8) (le_ _ _ rfl) (le_ _ _ rfl)
  obtain ⟨b6, rfl, E6, V6⟩ := Q6
  by_cases q7 : (255 : Int32) < d1 ∨ (255 : Int32) < d2 ∨ (255 : Int32) < d3 ∨ (255 : Int32) < d4
  · skip
    have B9 := (B5.ext E6)
    refine c_special C P6 (idx := 22) (y := (⟨"java/lang/String", "<init>", "([C)V"⟩ : MethodName)) (ybytes := jdk_42_method_3_code) (ymax := 2) (yrm := ({ frames := 5, cells := 2, slots := 12, locals := 74 } : Room)) rfl (by decide +kernel) (hw _ (List.mem_of_getElem? (i := 13) rfl)) (hw _ (List.mem_of_getElem? (i := 14) rfl)) (hw _ (List.mem_of_getElem? (i := 8) rfl)) (hw _ (List.mem_of_getElem? (i := 15) rfl)) (by decide) [.ref b6] [.ref h.size] (k_i1_4 l wd (h.size) b6 d1 d2 d3 d4 P6.old B9 V6 q7 I1 I2 I3 I4) (le_ _ _ rfl) (W := 1) (le_ _ _ rfl) (by decide +kernel : parseMethodDescriptor "([C)V" = some ⟨[(.array .char)], none⟩) rfl rfl rfl (le_ _ _ rfl) (le_ _ _ rfl) (le_ _ _ rfl) (pc' := 53) rfl (fun T8 h8 P8 Q8 => ?_)
    replace P8 := P8.more (k' := 4) (n' := 20) (le_ _ _ rfl) (le_ _ _ rfl)
    obtain ⟨K8, S8⟩ := Q8
    refine blk C P8 [.astore 10, .iload 5, .iconst 1] (by decide +kernel) (pc' := 58) (L' := [.val (.int y0), .val (.int y1), .val (.int y2), .val (.int y3), .val (.int y4), .val (.int (4 : Int32)), .val (.int d1), .val (.int d2), .val (.int d3), .val (.int d4), .val (.ref h.size), .unset]) (S' := [.int (1 : Int32), .int (4 : Int32)]) rfl ?_
    refine b_cmN C P8 (cd := .lt) (o := 10) (by decide +kernel) (pc' := 61) rfl (by decide : ¬ (4 : Int32) < (1 : Int32)) ?_
    refine blk C P8 [.iload 6] (by decide +kernel) (pc' := 63) (L' := [.val (.int y0), .val (.int y1), .val (.int y2), .val (.int y3), .val (.int y4), .val (.int (4 : Int32)), .val (.int d1), .val (.int d2), .val (.int d3), .val (.int d4), .val (.ref h.size), .unset]) (S' := [.int d1]) rfl ?_
    refine s_ldcI C P8 (idx := 7) (by decide +kernel) (hw _ (List.mem_of_getElem? (i := 5) rfl)) (pc' := 65) rfl ?_
    refine b_cm C P8 (cd := .eq) (o := 42) (by decide +kernel) (pc' := 107) (by decide) (pn := 68) rfl (fun (q10 : d1 = (65533 : Int32)) => ?_) (fun (q10 : ¬ d1 = (65533 : Int32)) => ?_)
    · skip
      refine blk C P8 [.iconst 1] (by decide +kernel) (pc' := 108) (L' := [.val (.int y0), .val (.int y1), .val (.int y2), .val (.int y3), .val (.int y4), .val (.int (4 : Int32)), .val (.int d1), .val (.int d2), .val (.int d3), .val (.int d4), .val (.ref h.size), .unset]) (S' := [.int (1 : Int32)]) rfl ?_
      refine b_goto C P8 (o := 4) (by decide +kernel) (pc' := 112) (by decide) ?_
      refine blk C P8 [.istore 11, .aload 10] (by decide +kernel) (pc' := 116) (L' := [.val (.int y0), .val (.int y1), .val (.int y2), .val (.int y3), .val (.int y4), .val (.int (4 : Int32)), .val (.int d1), .val (.int d2), .val (.int d3), .val (.int d4), .val (.ref h.size), .val (.int (1 : Int32))]) (S' := [.ref h.size]) rfl ?_
      refine c_static C P8 (idx := 25) (y := (⟨"com/example/archive_packager/archivepackager/LocaleCharset", "lostBytes", "(Ljava/lang/String;)Z"⟩ : MethodName)) (ybytes := prog_3_method_6_code) (ymax := 1) (yret := (some .boolean)) (yrm := ({ frames := 7, cells := 0, slots := 0, locals := 100 } : Room)) (by decide +kernel) (hw _ (List.mem_of_getElem? (i := 31) rfl)) (hw _ (List.mem_of_getElem? (i := 32) rfl)) (hw _ (List.mem_of_getElem? (i := 33) rfl)) (hw _ (List.mem_of_getElem? (i := 34) rfl)) (by decide) [.ref h.size] [] (k_lw4 l wd (h.size) d1 d2 d3 d4 P8.old S8 I1 I2 I3 I4) (le_ _ _ rfl) (W := 0) (le_ _ _ rfl) (by decide +kernel : parseMethodDescriptor "(Ljava/lang/String;)Z" = some ⟨[(.object "java/lang/String")], some .boolean⟩) rfl rfl rfl (le_ _ _ rfl) (le_ _ _ rfl) (le_ _ _ rfl) (pc' := 119) rfl (fun T11 h11 v11 P11 Q11 => ?_)
      replace P11 := P11.more (k' := 4) (n' := 20) (le_ _ _ rfl) (le_ _ _ rfl)
      obtain ⟨rfl, Q11⟩ := Q11
      rcases Q11 with ⟨rfl, Q11⟩ | ⟨rfl, Q11⟩
      · skip
        refine blk C P11 [.iload 11] (by decide +kernel) (pc' := 121) (L' := [.val (.int y0), .val (.int y1), .val (.int y2), .val (.int y3), .val (.int y4), .val (.int (4 : Int32)), .val (.int d1), .val (.int d2), .val (.int d3), .val (.int d4), .val (.ref h.size), .val (.int (1 : Int32))]) (S' := [.int (1 : Int32), .int (1 : Int32)]) rfl ?_
        refine b_cmN C P11 (cd := .ne) (o := 7) (by decide +kernel) (pc' := 124) rfl (by decide : (1 : Int32) = (1 : Int32)) ?_
        refine blk C P11 [.iconst 1] (by decide +kernel) (pc' := 125) (L' := [.val (.int y0), .val (.int y1), .val (.int y2), .val (.int y3), .val (.int y4), .val (.int (4 : Int32)), .val (.int d1), .val (.int d2), .val (.int d3), .val (.int d4), .val (.ref h.size), .val (.int (1 : Int32))]) (S' := [.int (1 : Int32)]) rfl ?_
        refine b_goto C P11 (o := 4) (by decide +kernel) (pc' := 129) (by decide) ?_
        exact r_int C P11 (ty := .boolean) (by simp) rfl (by decide +kernel) (le_ _ _ rfl) (le_ _ _ rfl) ⟨_, rfl, rfl⟩
      · skip
        exact absurd (lostY q10) Q11
    · skip
      refine blk C P8 [.iload 5, .iconst 2] (by decide +kernel) (pc' := 71) (L' := [.val (.int y0), .val (.int y1), .val (.int y2), .val (.int y3), .val (.int y4), .val (.int (4 : Int32)), .val (.int d1), .val (.int d2), .val (.int d3), .val (.int d4), .val (.ref h.size), .unset]) (S' := [.int (2 : Int32), .int (4 : Int32)]) rfl ?_
      refine b_cmN C P8 (cd := .lt) (o := 10) (by decide +kernel) (pc' := 74) rfl (by decide : ¬ (4 : Int32) < (2 : Int32)) ?_
      refine blk C P8 [.iload 7] (by decide +kernel) (pc' := 76) (L' := [.val (.int y0), .val (.int y1), .val (.int y2), .val (.int y3), .val (.int y4), .val (.int (4 : Int32)), .val (.int d1), .val (.int d2), .val (.int d3), .val (.int d4), .val (.ref h.size), .unset]) (S' := [.int d2]) rfl ?_
      refine s_ldcI C P8 (idx := 7) (by decide +kernel) (hw _ (List.mem_of_getElem? (i := 5) rfl)) (pc' := 78) rfl ?_
      refine b_cm C P8 (cd := .eq) (o := 29) (by decide +kernel) (pc' := 107) (by decide) (pn := 81) rfl (fun (q12 : d2 = (65533 : Int32)) => ?_) (fun (q12 : ¬ d2 = (65533 : Int32)) => ?_)
      · skip
        refine blk C P8 [.iconst 1] (by decide +kernel) (pc' := 108) (L' := [.val (.int y0), .val (.int y1), .val (.int y2), .val (.int y3), .val (.int y4), .val (.int (4 : Int32)), .val (.int d1), .val (.int d2), .val (.int d3), .val (.int d4), .val (.ref h.size), .unset]) (S' := [.int (1 : Int32)]) rfl ?_
        refine b_goto C P8 (o := 4) (by decide +kernel) (pc' := 112) (by decide) ?_
        refine blk C P8 [.istore 11, .aload 10] (by decide +kernel) (pc' := 116) (L' := [.val (.int y0), .val (.int y1), .val (.int y2), .val (.int y3), .val (.int y4), .val (.int (4 : Int32)), .val (.int d1), .val (.int d2), .val (.int d3), .val (.int d4), .val (.ref h.size), .val (.int (1 : Int32))]) (S' := [.ref h.size]) rfl ?_
        refine c_static C P8 (idx := 25) (y := (⟨"com/example/archive_packager/archivepackager/LocaleCharset", "lostBytes", "(Ljava/lang/String;)Z"⟩ : MethodName)) (ybytes := prog_3_method_6_code) (ymax := 1) (yret := (some .boolean)) (yrm := ({ frames := 7, cells := 0, slots := 0, locals := 100 } : Room)) (by decide +kernel) (hw _ (List.mem_of_getElem? (i := 31) rfl)) (hw _ (List.mem_of_getElem? (i := 32) rfl)) (hw _ (List.mem_of_getElem? (i := 33) rfl)) (hw _ (List.mem_of_getElem? (i := 34) rfl)) (by decide) [.ref h.size] [] (k_lw4 l wd (h.size) d1 d2 d3 d4 P8.old S8 I1 I2 I3 I4) (le_ _ _ rfl) (W := 0) (le_ _ _ rfl) (by decide +kernel : parseMethodDescriptor "(Ljava/lang/String;)Z" = some ⟨[(.object "java/lang/String")], some .boolean⟩) rfl rfl rfl (le_ _ _ rfl) (le_ _ _ rfl) (le_ _ _ rfl) (pc' := 119) rfl (fun T13 h13 v13 P13 Q13 => ?_)
        replace P13 := P13.more (k' := 4) (n' := 20) (le_ _ _ rfl) (le_ _ _ rfl)
        obtain ⟨rfl, Q13⟩ := Q13
        rcases Q13 with ⟨rfl, Q13⟩ | ⟨rfl, Q13⟩
        · skip
          refine blk C P13 [.iload 11] (by decide +kernel) (pc' := 121) (L' := [.val (.int y0), .val (.int y1), .val (.int y2), .val (.int y3), .val (.int y4), .val (.int (4 : Int32)), .val (.int d1), .val (.int d2), .val (.int d3), .val (.int d4), .val (.ref h.size), .val (.int (1 : Int32))]) (S' := [.int (1 : Int32), .int (1 : Int32)]) rfl ?_
          refine b_cmN C P13 (cd := .ne) (o := 7) (by decide +kernel) (pc' := 124) rfl (by decide : (1 : Int32) = (1 : Int32)) ?_
          refine blk C P13 [.iconst 1] (by decide +kernel) (pc' := 125) (L' := [.val (.int y0), .val (.int y1), .val (.int y2), .val (.int y3), .val (.int y4), .val (.int (4 : Int32)), .val (.int d1), .val (.int d2), .val (.int d3), .val (.int d4), .val (.ref h.size), .val (.int (1 : Int32))]) (S' := [.int (1 : Int32)]) rfl ?_
          refine b_goto C P13 (o := 4) (by decide +kernel) (pc' := 129) (by decide) ?_
          exact r_int C P13 (ty := .boolean) (by simp) rfl (by decide +kernel) (le_ _ _ rfl) (le_ _ _ rfl) ⟨_, rfl, rfl⟩
        · skip
          exact absurd (lostS (lostY q12)) Q13
      · skip
        refine blk C P8 [.iload 5, .iconst 3] (by decide +kernel) (pc' := 84) (L' := [.val (.int y0), .val (.int y1), .val (.int y2), .val (.int y3), .val (.int y4), .val (.int (4 : Int32)), .val (.int d1), .val (.int d2), .val (.int d3), .val (.int d4), .val (.ref h.size), .unset]) (S' := [.int (3 : Int32), .int (4 : Int32)]) rfl ?_
        refine b_cmN C P8 (cd := .lt) (o := 10) (by decide +kernel) (pc' := 87) rfl (by decide : ¬ (4 : Int32) < (3 : Int32)) ?_
        refine blk C P8 [.iload 8] (by decide +kernel) (pc' := 89) (L' := [.val (.int y0), .val (.int y1), .val (.int y2), .val (.int y3), .val (.int y4), .val (.int (4 : Int32)), .val (.int d1), .val (.int d2), .val (.int d3), .val (.int d4), .val (.ref h.size), .unset]) (S' := [.int d3]) rfl ?_
        refine s_ldcI C P8 (idx := 7) (by decide +kernel) (hw _ (List.mem_of_getElem? (i := 5) rfl)) (pc' := 91) rfl ?_
        refine b_cm C P8 (cd := .eq) (o := 16) (by decide +kernel) (pc' := 107) (by decide) (pn := 94) rfl (fun (q14 : d3 = (65533 : Int32)) => ?_) (fun (q14 : ¬ d3 = (65533 : Int32)) => ?_)
        · skip
          refine blk C P8 [.iconst 1] (by decide +kernel) (pc' := 108) (L' := [.val (.int y0), .val (.int y1), .val (.int y2), .val (.int y3), .val (.int y4), .val (.int (4 : Int32)), .val (.int d1), .val (.int d2), .val (.int d3), .val (.int d4), .val (.ref h.size), .unset]) (S' := [.int (1 : Int32)]) rfl ?_
          refine b_goto C P8 (o := 4) (by decide +kernel) (pc' := 112) (by decide) ?_
          refine blk C P8 [.istore 11, .aload 10] (by decide +kernel) (pc' := 116) (L' := [.val (.int y0), .val (.int y1), .val (.int y2), .val (.int y3), .val (.int y4), .val (.int (4 : Int32)), .val (.int d1), .val (.int d2), .val (.int d3), .val (.int d4), .val (.ref h.size), .val (.int (1 : Int32))]) (S' := [.ref h.size]) rfl ?_
          refine c_static C P8 (idx := 25) (y := (⟨"com/example/archive_packager/archivepackager/LocaleCharset", "lostBytes", "(Ljava/lang/String;)Z"⟩ : MethodName)) (ybytes := prog_3_method_6_code) (ymax := 1) (yret := (some .boolean)) (yrm := ({ frames := 7, cells := 0, slots := 0, locals := 100 } : Room)) (by decide +kernel) (hw _ (List.mem_of_getElem? (i := 31) rfl)) (hw _ (List.mem_of_getElem? (i := 32) rfl)) (hw _ (List.mem_of_getElem? (i := 33) rfl)) (hw _ (List.mem_of_getElem? (i := 34) rfl)) (by decide) [.ref h.size] [] (k_lw4 l wd (h.size) d1 d2 d3 d4 P8.old S8 I1 I2 I3 I4) (le_ _ _ rfl) (W := 0) (le_ _ _ rfl) (by decide +kernel : parseMethodDescriptor "(Ljava/lang/String;)Z" = some ⟨[(.object "java/lang/String")], some .boolean⟩) rfl rfl rfl (le_ _ _ rfl) (le_ _ _ rfl) (le_ _ _ rfl) (pc' := 119) rfl (fun T15 h15 v15 P15 Q15 => ?_)
          replace P15 := P15.more (k' := 4) (n' := 20) (le_ _ _ rfl) (le_ _ _ rfl)
          obtain ⟨rfl, Q15⟩ := Q15
          rcases Q15 with ⟨rfl, Q15⟩ | ⟨rfl, Q15⟩
          · skip
            refine blk C P15 [.iload 11] (by decide +kernel) (pc' := 121) (L' := [.val (.int y0), .val (.int y1), .val (.int y2), .val (.int y3), .val (.int y4), .val (.int (4 : Int32)), .val (.int d1), .val (.int d2), .val (.int d3), .val (.int d4), .val (.ref h.size), .val (.int (1 : Int32))]) (S' := [.int (1 : Int32), .int (1 : Int32)]) rfl ?_
            refine b_cmN C P15 (cd := .ne) (o := 7) (by decide +kernel) (pc' := 124) rfl (by decide : (1 : Int32) = (1 : Int32)) ?_
            refine blk C P15 [.iconst 1] (by decide +kernel) (pc' := 125) (L' := [.val (.int y0), .val (.int y1), .val (.int y2), .val (.int y3), .val (.int y4), .val (.int (4 : Int32)), .val (.int d1), .val (.int d2), .val (.int d3), .val (.int d4), .val (.ref h.size), .val (.int (1 : Int32))]) (S' := [.int (1 : Int32)]) rfl ?_
            refine b_goto C P15 (o := 4) (by decide +kernel) (pc' := 129) (by decide) ?_
            exact r_int C P15 (ty := .boolean) (by simp) rfl (by decide +kernel) (le_ _ _ rfl) (le_ _ _ rfl) ⟨_, rfl, rfl⟩
          · skip
            exact absurd (lostS (lostS (lostY q14))) Q15
        · skip
          refine blk C P8 [.iload 5, .iconst 4] (by decide +kernel) (pc' := 97) (L' := [.val (.int y0), .val (.int y1), .val (.int y2), .val (.int y3), .val (.int y4), .val (.int (4 : Int32)), .val (.int d1), .val (.int d2), .val (.int d3), .val (.int d4), .val (.ref h.size), .unset]) (S' := [.int (4 : Int32), .int (4 : Int32)]) rfl ?_
          refine b_cmN C P8 (cd := .lt) (o := 14) (by decide +kernel) (pc' := 100) rfl (by decide : ¬ (4 : Int32) < (4 : Int32)) ?_
          refine blk C P8 [.iload 9] (by decide +kernel) (pc' := 102) (L' := [.val (.int y0), .val (.int y1), .val (.int y2), .val (.int y3), .val (.int y4), .val (.int (4 : Int32)), .val (.int d1), .val (.int d2), .val (.int d3), .val (.int d4), .val (.ref h.size), .unset]) (S' := [.int d4]) rfl ?_
          refine s_ldcI C P8 (idx := 7) (by decide +kernel) (hw _ (List.mem_of_getElem? (i := 5) rfl)) (pc' := 104) rfl ?_
          refine b_cm C P8 (cd := .ne) (o := 7) (by decide +kernel) (pc' := 111) (by decide) (pn := 107) rfl (fun (q16 : ¬ d4 = (65533 : Int32)) => ?_) (fun (q16 : d4 = (65533 : Int32)) => ?_)
          · skip
            refine blk C P8 [.iconst 0, .istore 11, .aload 10] (by decide +kernel) (pc' := 116) (L' := [.val (.int y0), .val (.int y1), .val (.int y2), .val (.int y3), .val (.int y4), .val (.int (4 : Int32)), .val (.int d1), .val (.int d2), .val (.int d3), .val (.int d4), .val (.ref h.size), .val (.int (0 : Int32))]) (S' := [.ref h.size]) rfl ?_
            refine c_static C P8 (idx := 25) (y := (⟨"com/example/archive_packager/archivepackager/LocaleCharset", "lostBytes", "(Ljava/lang/String;)Z"⟩ : MethodName)) (ybytes := prog_3_method_6_code) (ymax := 1) (yret := (some .boolean)) (yrm := ({ frames := 7, cells := 0, slots := 0, locals := 100 } : Room)) (by decide +kernel) (hw _ (List.mem_of_getElem? (i := 31) rfl)) (hw _ (List.mem_of_getElem? (i := 32) rfl)) (hw _ (List.mem_of_getElem? (i := 33) rfl)) (hw _ (List.mem_of_getElem? (i := 34) rfl)) (by decide) [.ref h.size] [] (k_lw4 l wd (h.size) d1 d2 d3 d4 P8.old S8 I1 I2 I3 I4) (le_ _ _ rfl) (W := 0) (le_ _ _ rfl) (by decide +kernel : parseMethodDescriptor "(Ljava/lang/String;)Z" = some ⟨[(.object "java/lang/String")], some .boolean⟩) rfl rfl rfl (le_ _ _ rfl) (le_ _ _ rfl) (le_ _ _ rfl) (pc' := 119) rfl (fun T17 h17 v17 P17 Q17 => ?_)
            replace P17 := P17.more (k' := 4) (n' := 20) (le_ _ _ rfl) (le_ _ _ rfl)
            obtain ⟨rfl, Q17⟩ := Q17
            rcases Q17 with ⟨rfl, Q17⟩ | ⟨rfl, Q17⟩
            · skip
              exact absurd Q17 (lostN q10 (lostN q12 (lostN q14 (lostN q16 lost0))))
            · skip
              refine blk C P17 [.iload 11] (by decide +kernel) (pc' := 121) (L' := [.val (.int y0), .val (.int y1), .val (.int y2), .val (.int y3), .val (.int y4), .val (.int (4 : Int32)), .val (.int d1), .val (.int d2), .val (.int d3), .val (.int d4), .val (.ref h.size), .val (.int (0 : Int32))]) (S' := [.int (0 : Int32), .int (0 : Int32)]) rfl ?_
              refine b_cmN C P17 (cd := .ne) (o := 7) (by decide +kernel) (pc' := 124) rfl (by decide : (0 : Int32) = (0 : Int32)) ?_
              refine blk C P17 [.iconst 1] (by decide +kernel) (pc' := 125) (L' := [.val (.int y0), .val (.int y1), .val (.int y2), .val (.int y3), .val (.int y4), .val (.int (4 : Int32)), .val (.int d1), .val (.int d2), .val (.int d3), .val (.int d4), .val (.ref h.size), .val (.int (0 : Int32))]) (S' := [.int (1 : Int32)]) rfl ?_
              refine b_goto C P17 (o := 4) (by decide +kernel) (pc' := 129) (by decide) ?_
              exact r_int C P17 (ty := .boolean) (by simp) rfl (by decide +kernel) (le_ _ _ rfl) (le_ _ _ rfl) ⟨_, rfl, rfl⟩
          · skip
            refine blk C P8 [.iconst 1] (by decide +kernel) (pc' := 108) (L' := [.val (.int y0), .val (.int y1), .val (.int y2), .val (.int y3), .val (.int y4), .val (.int (4 : Int32)), .val (.int d1), .val (.int d2), .val (.int d3), .val (.int d4), .val (.ref h.size), .unset]) (S' := [.int (1 : Int32)]) rfl ?_
            refine b_goto C P8 (o := 4) (by decide +kernel) (pc' := 112) (by decide) ?_
            refine blk C P8 [.istore 11, .aload 10] (by decide +kernel) (pc' := 116) (L' := [.val (.int y0), .val (.int y1), .val (.int y2), .val (.int y3), .val (.int y4), .val (.int (4 : Int32)), .val (.int d1), .val (.int d2), .val (.int d3), .val (.int d4), .val (.ref h.size), .val (.int (1 : Int32))]) (S' := [.ref h.size]) rfl ?_
            refine c_static C P8 (idx := 25) (y := (⟨"com/example/archive_packager/archivepackager/LocaleCharset", "lostBytes", "(Ljava/lang/String;)Z"⟩ : MethodName)) (ybytes := prog_3_method_6_code) (ymax := 1) (yret := (some .boolean)) (yrm := ({ frames := 7, cells := 0, slots := 0, locals := 100 } : Room)) (by decide +kernel) (hw _ (List.mem_of_getElem? (i := 31) rfl)) (hw _ (List.mem_of_getElem? (i := 32) rfl)) (hw _ (List.mem_of_getElem? (i := 33) rfl)) (hw _ (List.mem_of_getElem? (i := 34) rfl)) (by decide) [.ref h.size] [] (k_lw4 l wd (h.size) d1 d2 d3 d4 P8.old S8 I1 I2 I3 I4) (le_ _ _ rfl) (W := 0) (le_ _ _ rfl) (by decide +kernel : parseMethodDescriptor "(Ljava/lang/String;)Z" = some ⟨[(.object "java/lang/String")], some .boolean⟩) rfl rfl rfl (le_ _ _ rfl) (le_ _ _ rfl) (le_ _ _ rfl) (pc' := 119) rfl (fun T18 h18 v18 P18 Q18 => ?_)
            replace P18 := P18.more (k' := 4) (n' := 20) (le_ _ _ rfl) (le_ _ _ rfl)
            obtain ⟨rfl, Q18⟩ := Q18
            rcases Q18 with ⟨rfl, Q18⟩ | ⟨rfl, Q18⟩
            · skip
              refine blk C P18 [.iload 11] (by decide +kernel) (pc' := 121) (L' := [.val (.int y0), .val (.int y1), .val (.int y2), .val (.int y3), .val (.int y4), .val (.int (4 : Int32)), .val (.int d1), .val (.int d2), .val (.int d3), .val (.int d4), .val (.ref h.size), .val (.int (1 : Int32))]) (S' := [.int (1 : Int32), .int (1 : Int32)]) rfl ?_
              refine b_cmN C P18 (cd := .ne) (o := 7) (by decide +kernel) (pc' := 124) rfl (by decide : (1 : Int32) = (1 : Int32)) ?_
              refine blk C P18 [.iconst 1] (by decide +kernel) (pc' := 125) (L' := [.val (.int y0), .val (.int y1), .val (.int y2), .val (.int y3), .val (.int y4), .val (.int (4 : Int32)), .val (.int d1), .val (.int d2), .val (.int d3), .val (.int d4), .val (.ref h.size), .val (.int (1 : Int32))]) (S' := [.int (1 : Int32)]) rfl ?_
              refine b_goto C P18 (o := 4) (by decide +kernel) (pc' := 129) (by decide) ?_
              exact r_int C P18 (ty := .boolean) (by simp) rfl (by decide +kernel) (le_ _ _ rfl) (le_ _ _ rfl) ⟨_, rfl, rfl⟩
            · skip
              exact absurd (lostS (lostS (lostS (lostY q16)))) Q18
  · skip
    have B20 := (B5.ext E6)
    refine c_newStr C P6 hw Sz hz (idx := 22) (cs := [d1, d2, d3, d4]) (rest := [.ref h.size]) (W := 1) (by decide +kernel) (hw _ (List.mem_of_getElem? (i := 13) rfl)) (hw _ (List.mem_of_getElem? (i := 14) rfl)) B20 V6 (latS ⟨(c16_rng I1).1, fun z => q7 (Or.inl z)⟩ (latS ⟨(c16_rng I2).1, fun z => q7 (Or.inr (Or.inl z))⟩ (latS ⟨(c16_rng I3).1, fun z => q7 (Or.inr (Or.inr (Or.inl z)))⟩ (latS ⟨(c16_rng I4).1, fun z => q7 (Or.inr (Or.inr (Or.inr z)))⟩ lat0)))) rfl (le_ _ _ rfl) (le_ _ _ rfl) (le_ _ _ rfl) (le_ _ _ rfl) (le_ _ _ rfl) (pc' := 53) rfl (fun T19 h19 P19 K19 S19 => ?_)
    replace P19 := P19.more (k' := 4) (n' := 16) (le_ _ _ rfl) (le_ _ _ rfl)
    refine blk C P19 [.astore 10, .iload 5, .iconst 1] (by decide +kernel) (pc' := 58) (L' := [.val (.int y0), .val (.int y1), .val (.int y2), .val (.int y3), .val (.int y4), .val (.int (4 : Int32)), .val (.int d1), .val (.int d2), .val (.int d3), .val (.int d4), .val (.ref h.size), .unset]) (S' := [.int (1 : Int32), .int (4 : Int32)]) rfl ?_
    refine b_cmN C P19 (cd := .lt) (o := 10) (by decide +kernel) (pc' := 61) rfl (by decide : ¬ (4 : Int32) < (1 : Int32)) ?_
    refine blk C P19 [.iload 6] (by decide +kernel) (pc' := 63) (L' := [.val (.int y0), .val (.int y1), .val (.int y2), .val (.int y3), .val (.int y4), .val (.int (4 : Int32)), .val (.int d1), .val (.int d2), .val (.int d3), .val (.int d4), .val (.ref h.size), .unset]) (S' := [.int d1]) rfl ?_
    refine s_ldcI C P19 (idx := 7) (by decide +kernel) (hw _ (List.mem_of_getElem? (i := 5) rfl)) (pc' := 65) rfl ?_
    refine b_cmN C P19 (cd := .eq) (o := 42) (by decide +kernel) (pc' := 68) rfl (not65533 (fun z => q7 (Or.inl z))) ?_
    refine blk C P19 [.iload 5, .iconst 2] (by decide +kernel) (pc' := 71) (L' := [.val (.int y0), .val (.int y1), .val (.int y2), .val (.int y3), .val (.int y4), .val (.int (4 : Int32)), .val (.int d1), .val (.int d2), .val (.int d3), .val (.int d4), .val (.ref h.size), .unset]) (S' := [.int (2 : Int32), .int (4 : Int32)]) rfl ?_
    refine b_cmN C P19 (cd := .lt) (o := 10) (by decide +kernel) (pc' := 74) rfl (by decide : ¬ (4 : Int32) < (2 : Int32)) ?_
    refine blk C P19 [.iload 7] (by decide +kernel) (pc' := 76) (L' := [.val (.int y0), .val (.int y1), .val (.int y2), .val (.int y3), .val (.int y4), .val (.int (4 : Int32)), .val (.int d1), .val (.int d2), .val (.int d3), .val (.int d4), .val (.ref h.size), .unset]) (S' := [.int d2]) rfl ?_
    refine s_ldcI C P19 (idx := 7) (by decide +kernel) (hw _ (List.mem_of_getElem? (i := 5) rfl)) (pc' := 78) rfl ?_
    refine b_cmN C P19 (cd := .eq) (o := 29) (by decide +kernel) (pc' := 81) rfl (not65533 (fun z => q7 (Or.inr (Or.inl z)))) ?_
    refine blk C P19 [.iload 5, .iconst 3] (by decide +kernel) (pc' := 84) (L' := [.val (.int y0), .val (.int y1), .val (.int y2), .val (.int y3), .val (.int y4), .val (.int (4 : Int32)), .val (.int d1), .val (.int d2), .val (.int d3), .val (.int d4), .val (.ref h.size), .unset]) (S' := [.int (3 : Int32), .int (4 : Int32)]) rfl ?_
    refine b_cmN C P19 (cd := .lt) (o := 10) (by decide +kernel) (pc' := 87) rfl (by decide : ¬ (4 : Int32) < (3 : Int32)) ?_
    refine blk C P19 [.iload 8] (by decide +kernel) (pc' := 89) (L' := [.val (.int y0), .val (.int y1), .val (.int y2), .val (.int y3), .val (.int y4), .val (.int (4 : Int32)), .val (.int d1), .val (.int d2), .val (.int d3), .val (.int d4), .val (.ref h.size), .unset]) (S' := [.int d3]) rfl ?_
    refine s_ldcI C P19 (idx := 7) (by decide +kernel) (hw _ (List.mem_of_getElem? (i := 5) rfl)) (pc' := 91) rfl ?_
    refine b_cmN C P19 (cd := .eq) (o := 16) (by decide +kernel) (pc' := 94) rfl (not65533 (fun z => q7 (Or.inr (Or.inr (Or.inl z))))) ?_
    refine blk C P19 [.iload 5, .iconst 4] (by decide +kernel) (pc' := 97) (L' := [.val (.int y0), .val (.int y1), .val (.int y2), .val (.int y3), .val (.int y4), .val (.int (4 : Int32)), .val (.int d1), .val (.int d2), .val (.int d3), .val (.int d4), .val (.ref h.size), .unset]) (S' := [.int (4 : Int32), .int (4 : Int32)]) rfl ?_
    refine b_cmN C P19 (cd := .lt) (o := 14) (by decide +kernel) (pc' := 100) rfl (by decide : ¬ (4 : Int32) < (4 : Int32)) ?_
    refine blk C P19 [.iload 9] (by decide +kernel) (pc' := 102) (L' := [.val (.int y0), .val (.int y1), .val (.int y2), .val (.int y3), .val (.int y4), .val (.int (4 : Int32)), .val (.int d1), .val (.int d2), .val (.int d3), .val (.int d4), .val (.ref h.size), .unset]) (S' := [.int d4]) rfl ?_
    refine s_ldcI C P19 (idx := 7) (by decide +kernel) (hw _ (List.mem_of_getElem? (i := 5) rfl)) (pc' := 104) rfl ?_
    refine b_cmY C P19 (cd := .ne) (o := 7) (by decide +kernel) (pc' := 111) (by decide) (not65533 (fun z => q7 (Or.inr (Or.inr (Or.inr z))))) ?_
    refine blk C P19 [.iconst 0, .istore 11, .aload 10] (by decide +kernel) (pc' := 116) (L' := [.val (.int y0), .val (.int y1), .val (.int y2), .val (.int y3), .val (.int y4), .val (.int (4 : Int32)), .val (.int d1), .val (.int d2), .val (.int d3), .val (.int d4), .val (.ref h.size), .val (.int (0 : Int32))]) (S' := [.ref h.size]) rfl ?_
    refine c_static C P19 (idx := 25) (y := (⟨"com/example/archive_packager/archivepackager/LocaleCharset", "lostBytes", "(Ljava/lang/String;)Z"⟩ : MethodName)) (ybytes := prog_3_method_6_code) (ymax := 1) (yret := (some .boolean)) (yrm := ({ frames := 4, cells := 0, slots := 0, locals := 55 } : Room)) (by decide +kernel) (hw _ (List.mem_of_getElem? (i := 31) rfl)) (hw _ (List.mem_of_getElem? (i := 32) rfl)) (hw _ (List.mem_of_getElem? (i := 33) rfl)) (hw _ (List.mem_of_getElem? (i := 34) rfl)) (by decide) [.ref h.size] [] (k_ll l wd (h.size) P19.old S19) (le_ _ _ rfl) (W := 0) (le_ _ _ rfl) (by decide +kernel : parseMethodDescriptor "(Ljava/lang/String;)Z" = some ⟨[(.object "java/lang/String")], some .boolean⟩) rfl rfl rfl (le_ _ _ rfl) (le_ _ _ rfl) (le_ _ _ rfl) (pc' := 119) rfl (fun T21 h21 v21 P21 Q21 => ?_)
    replace P21 := P21.more (k' := 4) (n' := 16) (le_ _ _ rfl) (le_ _ _ rfl)
    obtain ⟨rfl, rfl⟩ := Q21
    refine blk C P21 [.iload 11] (by decide +kernel) (pc' := 121) (L' := [.val (.int y0), .val (.int y1), .val (.int y2), .val (.int y3), .val (.int y4), .val (.int (4 : Int32)), .val (.int d1), .val (.int d2), .val (.int d3), .val (.int d4), .val (.ref h.size), .val (.int (0 : Int32))]) (S' := [.int (0 : Int32), .int (0 : Int32)]) rfl ?_
    refine b_cmN C P21 (cd := .ne) (o := 7) (by decide +kernel) (pc' := 124) rfl (by decide : (0 : Int32) = (0 : Int32)) ?_
    refine blk C P21 [.iconst 1] (by decide +kernel) (pc' := 125) (L' := [.val (.int y0), .val (.int y1), .val (.int y2), .val (.int y3), .val (.int y4), .val (.int (4 : Int32)), .val (.int d1), .val (.int d2), .val (.int d3), .val (.int d4), .val (.ref h.size), .val (.int (0 : Int32))]) (S' := [.int (1 : Int32)]) rfl ?_
    refine b_goto C P21 (o := 4) (by decide +kernel) (pc' := 129) (by decide) ?_
    exact r_int C P21 (ty := .boolean) (by simp) rfl (by decide +kernel) (le_ _ _ rfl) (le_ _ _ rfl) ⟨_, rfl, rfl⟩
theorem k_law_ef (m : MethodId) (y0 y1 y2 y3 y4 : Int32) : entryFrame m #[.int y0, .int y1, .int y2, .int y3, .int y4] maxLocals = fr m 0 [.val (.int y0), .val (.int y1), .val (.int y2), .val (.int y3), .val (.int y4), .unset, .unset, .unset, .unset, .unset, .unset, .unset] [] := by first | (simp [entryFrame, mkF, argsToLocals, Value.category, maxLocals]; done) | rfl
set_option maxRecDepth 65536 in
set_option maxHeartbeats 4000000 in
theorem k_law (l : Launch) {Z : State} {a0 : Array Value} {n0 : Nat} {h : Heap} {z : Int32} {fm : Value} (wd : Wd Z a0 z fm) (y0 y1 y2 y3 y4 : Int32)  (O : Old Z n0 h)  :
    Con l Z consts_1 n0 tables_1 x code maxLocals ret room_1 #[.int y0, .int y1, .int y2, .int y3, .int y4] h (Ret1 fun v h' => v = .int 1) := by
  obtain ⟨hw, hEL, Sz, hz, SA, SH, SL, SF, hfm⟩ := id wd
  refine Con.intro (plainFor_of_name (by first | (simp [plainName, overriddenIn]; done) | decide +kernel)) O hEL ?_
  intro p e s m below meth c T C hs P
  have C : Ctx Z a0 consts_1 p s m meth c "com/example/archive_packager/archivepackager/LocaleCharsetLostBytesPinLaw" "law" code 12 (some .boolean) := C
  refine Run.cast (k_law_ef m y0 y1 y2 y3 y4) ?_
  refine blk C P [.iload_n 0] (by decide +kernel) (pc' := 1) (L' := [.val (.int y0), .val (.int y1), .val (.int y2), .val (.int y3), .val (.int y4), .unset, .unset, .unset, .unset, .unset, .unset, .unset]) (S' := [.int y0]) rfl ?_
  refine s_ldcI C P (idx := 9) (by decide +kernel) (hw _ (List.mem_of_getElem? (i := 0) rfl)) (pc' := 3) rfl ?_
  refine blk C P [.iand, .iconst 5] (by decide +kernel) (pc' := 5) (L' := [.val (.int y0), .val (.int y1), .val (.int y2), .val (.int y3), .val (.int y4), .unset, .unset, .unset, .unset, .unset, .unset, .unset]) (S' := [.int (5 : Int32), .int (y0 &&& (2147483647 : Int32))]) rfl ?_
  refine s_irem C P (by decide +kernel) (by decide) (pc' := 6) rfl ?_
  rcases mod5 y0 with q | q | q | q | q
  · rw [q]; exact t6_0 l wd y0 y1 y2 y3 y4 C P
  · rw [q]; exact t6_1 l wd y0 y1 y2 y3 y4 C P
  · rw [q]; exact t6_2 l wd y0 y1 y2 y3 y4 C P
  · rw [q]; exact t6_3 l wd y0 y1 y2 y3 y4 C P
  · rw [q]; exact t6_4 l wd y0 y1 y2 y3 y4 C P
set_option maxRecDepth 65536 in
set_option maxHeartbeats 4000000 in
theorem comes_1 {Post : Tables → Env → Array Value → State → Outcome → State → Prop} (hpost : ∀ tb e args s v u, (limb_1_1.after args s (.returned v) u = true ∧ limb_1_2.after args s (.returned v) u = true ∧ True) → FramedW s (.returned v) u (Jvm.fieldLocs frame_1_writes args s ++ Jvm.arrayLocs frame_1_arrays args s ++ Jvm.staticLocs frame_1_statics s) 24 1152 → Post tb e args s (.returned v) u) :
    ArmFor flags0 classFile x code maxLocals ret World_1 tables_1 room_1 Calls_1 rest_1 Pre_1 Post := by
  intro l hfl _ _ p e ha hc hk s m args below hf hA hF happ hP
  obtain ⟨hcalls, hrest, hpre⟩ := hP
  obtain ⟨-, -, -, hnamed, -, -, -, hat⟩ := (Spec.applies_iff hf).mp happ
  obtain ⟨hg, hn⟩ := and_e (Cond.before_iff.mp (show (Jvm.Cond.and given_1 narrow_1).before args s = true from hpre))
  obtain ⟨hcount, g0⟩ := and_e hg
  obtain ⟨w0, w1, w2, w3, w4, rfl⟩ : ∃ w0 w1 w2 w3 w4 : Value, args = #[w0, w1, w2, w3, w4] := by
    have hs : args.size = 5 := by simpa [Cond.value, given_1] using hcount
    obtain ⟨L⟩ := args
    match L, hs with
    | [w0, w1, w2, w3, w4], _ => exact ⟨w0, w1, w2, w3, w4, rfl⟩
  obtain ⟨c0, g1⟩ := and_e g0
  obtain ⟨i0, e0⟩ := is_v c0
  obtain rfl : w0 = .int i0 := Option.some.inj e0
  obtain ⟨c1, g2⟩ := and_e g1
  obtain ⟨i1, e1⟩ := is_v c1
  obtain rfl : w1 = .int i1 := Option.some.inj e1
  obtain ⟨c2, g3⟩ := and_e g2
  obtain ⟨i2, e2⟩ := is_v c2
  obtain rfl : w2 = .int i2 := Option.some.inj e2
  obtain ⟨c3, g4⟩ := and_e g3
  obtain ⟨i3, e3⟩ := is_v c3
  obtain rfl : w3 = .int i3 := Option.some.inj e3
  obtain ⟨i4, e4⟩ := is_v g4
  obtain rfl : w4 = .int i4 := Option.some.inj e4
  have hw := fun d (hd : d ∈ tables_1) => atoms_spec (ws := Jvm.Cond.code x code maxLocals ret :: tables_1) hat d (List.mem_cons_of_mem _ hd)
  obtain ⟨hsets, hown0⟩ := atoms_of _ (rest_1_c_eq ▸ (show rest_1_c.before _ s = true from hrest))
  have n3 := not_v (Cond.before_iff.mp (hsets _ (List.mem_of_getElem? (i := 2) rfl)))
  obtain ⟨z, ez⟩ := is_v (Cond.before_iff.mp (hsets _ (List.mem_of_getElem? (i := 1) rfl)))
  have Sz : Sta s s.heap "java/lang/String" "COMPACT_STRINGS" "Z" (.int z) := Sta.start ez (Or.inl (hsets _ (List.mem_of_getElem? (i := 0) rfl)))
  have hz : ¬ (z = (0 : Int32)) := gotF (Cond.eq_ints ez (Term.int_eval (0))) n3
  have SA : Sta s s.heap "java/lang/StringUTF16" "$assertionsDisabled" "Z" (.int 1) := Sta.start (Cond.eq_int (hsets _ (List.mem_of_getElem? (i := 12) rfl)) rfl) (Or.inl (hsets _ (List.mem_of_getElem? (i := 11) rfl)))
  have SH : Sta s s.heap "java/lang/StringUTF16" "HI_BYTE_SHIFT" "I" (.int 0) := Sta.start (Cond.eq_int (hsets _ (List.mem_of_getElem? (i := 15) rfl)) rfl) (Or.inl (hsets _ (List.mem_of_getElem? (i := 14) rfl)))
  have SL : Sta s s.heap "java/lang/StringUTF16" "LO_BYTE_SHIFT" "I" (.int 8) := Sta.start (Cond.eq_int (hsets _ (List.mem_of_getElem? (i := 18) rfl)) rfl) (Or.inl (hsets _ (List.mem_of_getElem? (i := 17) rfl)))
  obtain ⟨fm, efm, hfm⟩ := isR_v (Cond.before_iff.mp (hsets _ (List.mem_of_getElem? (i := 8) rfl)))
  have SF : Sta s s.heap "jdk/internal/util/Preconditions" "SIOOBE_FORMATTER" "Ljava/util/function/BiFunction;" fm := Sta.start efm (Or.inl (hsets _ (List.mem_of_getElem? (i := 7) rfl)))
  have hEL : EW s _ consts_1 := (EW.cons (hw _ (List.mem_of_getElem? (i := 23) rfl)) (by decide) EW.nil)
  have hCH : CHv s consts_1 s.vm s.heap := CHv.start hEL (fun q hq => hcalls.1 q hq) (hsets _ (List.mem_of_getElem? (i := 2) rfl)) (hw _ (List.mem_of_getElem? (i := 24) rfl)) (hw _ (List.mem_of_getElem? (i := 7) rfl))
  have wd : Wd s _ z fm := ⟨hw, hEL, Sz, hz, SA, SH, SL, SF, hfm⟩
  obtain ⟨n, o, h1, h2, h3, _, L, rfl, ⟨⟨_, rfl, rfl⟩, N, -⟩, -, hq⟩ := k_law l wd i0 i1 i2 i3 i4 (Old.start s) p e ha hc hk s m _ below hf ((Spec.applies_iff_loose hf).mp happ).1 ⟨rfl, State.Warmed39.refl s, rfl, hCH⟩ trivial
  refine ⟨n, _, h1, h2, h3, hpost _ _ _ _ _ _ ⟨Cond.after_iff.mpr rfl, Cond.after_iff.mpr (eq_i res_at (Term.int_eval (1)) rfl), trivial⟩ ⟨hq.1, hq.2.1, hq.2.2.1, (hq.2.2.2.sift fun y hy => Or.inr (N y hy)).mono (by decide) (by decide)⟩⟩
theorem main_1_1 : Claimed_1_1 := comes_1 fun _ _ _ _ _ _ h hF => ⟨h.1, hF⟩
theorem main_1_2 : Claimed_1_2 := comes_1 fun _ _ _ _ _ _ h hF => ⟨h.2.1, hF⟩
end Jvm.Pilot.@@N@@
namespace Jvm.Pilot.@@N@@
open Jvm Jvm.ClassFile Sem Op Lib Jvm.Free Jvm.Stand Jvm.Pilot.@@N@@.Jvm.D
/-! MADE BY PROGRAM (witnessworld.py) out of the Statement's table words and the real class files: 21 classes; the members and pool entries that the words name. The judged class is class 1, her method 3. -/
namespace start1
open Jvm.ClassFile
def u (s : String) : CpInfo := .utf8 (stringToUtf16 s)
/-- a pool by its gaps: so many unusable entries, then the entry; so many at the end -/
def gap : Nat → List CpInfo → List CpInfo
  | 0, r => r
  | n + 1, r => .unusable :: gap n r
def poolList (es : List (Nat × CpInfo)) (last : Nat) : List CpInfo := es.foldr (fun e r => gap e.1 (e.2 :: r)) (gap last [])
def pool (es : List (Nat × CpInfo)) (last : Nat) : Array CpInfo := ⟨poolList es last⟩
def fileOf (pool : Array CpInfo) (this : Nat) (attrs : Array Attribute := #[]) (ms : Array MethodInfo := #[]) (fl : Nat := 33) (sup : Nat := 0) (ifs : Array Nat := #[]) (fds : Array FieldInfo := #[]) : ClassFile where
  minorVersion := 0
  majorVersion := 65
  constantPool := pool
  accessFlags := fl
  thisClass := this
  superClass := sup
  interfaces := ifs
  fields := fds
  methods := ms
  attributes := attrs
def plain (name : String) (sup : Option ClassId) : Class where
  name := name
  kind := .ordinary
  loader := none
  accessFlags := 33
  super := sup
  interfaces := #[]
  cf := none
  fields := #[]
  methods := #[]
  instanceTypes := #[]
  staticTypes := #[]
  resolved := #[]
  callSites := []
  init := .initialized
  statics := none
  mirror := none

def pool0 : Array CpInfo := pool [(5, u "<init>"), (0, u "()V"), (1, .class_ 10), (1, u "java/lang/Object")] 113

def k0c0 : Code := { maxStack := 0, maxLocals := 1, code := object_method_1_code, exceptionTable := #[], attributes := #[] }
def k0m0 : Method := { name := "<init>", desc := "()V", sig := { parameters := [], returnType := none }, accessFlags := 1, code := some k0c0 }
/-- java/lang/Object -/
def k0 : Class := { plain "java/lang/Object" none with
  accessFlags := 33
  interfaces := #[]
  cf := some (fileOf pool0 8 #[] #[{ accessFlags := 1, nameIndex := 5, descriptorIndex := 6, attributes := #[] }] 33 0 #[] #[])
  fields := #[]
  methods := #[k0m0]
  instanceTypes := #[]
  staticTypes := #[]
  resolved := Array.replicate 124 none
  statics := none }

def pool1 : Array CpInfo := pool [(2, .class_ 4), (1, u "java/lang/Object"), (0, u "<init>"), (0, u "()V"), (0, .integer 65533), (0, .integer 65535), (0, .integer 2147483647), (0, .methodref 11 12), (0, .class_ 13), (0, .nameAndType 14 15), (0, u "com/example/archive_packager/archivepackager/LocaleCharsetLostBytesPinLaw"), (0, u "draw"), (0, u "(I)C"), (0, .class_ 17), (0, u "java/lang/String"), (0, .methodref 11 19), (0, .nameAndType 20 21), (0, u "build"), (0, u "(ICCCC)[C"), (0, .methodref 16 23), (0, .nameAndType 5 24), (0, u "([C)V"), (0, .methodref 26 27), (0, .class_ 28), (0, .nameAndType 29 30), (0, u "com/example/archive_packager/archivepackager/LocaleCharset"), (0, u "lostBytes"), (0, u "(Ljava/lang/String;)Z"), (3, u "law"), (0, u "(IIIII)Z")] 2

def k1m0 : Method := { name := "<init>", desc := "()V", sig := { parameters := [], returnType := none }, accessFlags := 1, code := none }
def k1c1 : Code := { maxStack := 2, maxLocals := 1, code := method_2_code, exceptionTable := #[], attributes := #[] }
def k1m1 : Method := { name := "draw", desc := "(I)C", sig := { parameters := [.int], returnType := some .char }, accessFlags := 10, code := some k1c1 }
def k1c2 : Code := { maxStack := 4, maxLocals := 5, code := method_3_code, exceptionTable := #[], attributes := #[] }
def k1m2 : Method := { name := "build", desc := "(ICCCC)[C", sig := { parameters := [.int, .char, .char, .char, .char], returnType := some (.array .char) }, accessFlags := 10, code := some k1c2 }
def k1c3 : Code := { maxStack := 7, maxLocals := 12, code := code, exceptionTable := #[], attributes := #[] }
def k1m3 : Method := { name := "law", desc := "(IIIII)Z", sig := { parameters := [.int, .int, .int, .int, .int], returnType := some .boolean }, accessFlags := 9, code := some k1c3 }
/-- com/example/archive_packager/archivepackager/LocaleCharsetLostBytesPinLaw -/
def k1 : Class := { plain "com/example/archive_packager/archivepackager/LocaleCharsetLostBytesPinLaw" (some 0) with
  accessFlags := 49
  interfaces := #[]
  cf := some (fileOf pool1 11 #[] #[{ accessFlags := 1, nameIndex := 5, descriptorIndex := 6, attributes := #[] }, { accessFlags := 10, nameIndex := 14, descriptorIndex := 15, attributes := #[] }, { accessFlags := 10, nameIndex := 20, descriptorIndex := 21, attributes := #[] }, { accessFlags := 9, nameIndex := 34, descriptorIndex := 35, attributes := #[] }] 49 2 #[] #[])
  fields := #[]
  methods := #[k1m0, k1m1, k1m2, k1m3]
  instanceTypes := #[]
  staticTypes := #[]
  resolved := Array.replicate 38 none
  statics := none }

def pool2 : Array CpInfo := pool [(1, .class_ 2), (0, u "java/io/Serializable"), (0, .class_ 4), (0, u "java/lang/Object")] 2

/-- java/io/Serializable -/
def k2 : Class := { plain "java/io/Serializable" (some 0) with
  accessFlags := 1537
  interfaces := #[]
  cf := some (fileOf pool2 1 #[] #[] 1537 3 #[] #[])
  fields := #[]
  methods := #[]
  instanceTypes := #[]
  staticTypes := #[]
  resolved := Array.replicate 7 none
  statics := none }

def pool3 : Array CpInfo := pool [(1, .class_ 2), (0, u "java/lang/Comparable"), (0, .class_ 4), (0, u "java/lang/Object")] 7

/-- java/lang/Comparable -/
def k3 : Class := { plain "java/lang/Comparable" (some 0) with
  accessFlags := 1537
  interfaces := #[]
  cf := some (fileOf pool3 1 #[] #[] 1537 3 #[] #[])
  fields := #[]
  methods := #[]
  instanceTypes := #[]
  staticTypes := #[]
  resolved := Array.replicate 12 none
  statics := none }

def pool4 : Array CpInfo := pool [(2, .class_ 4), (1, u "java/lang/CharSequence"), (42, .class_ 48), (0, u "java/lang/CharSequence$1CodePointIterator"), (10, .class_ 60), (0, u "java/lang/CharSequence$1CharIterator"), (5, .class_ 67), (0, u "java/lang/Object")] 63

/-- java/lang/CharSequence -/
def k4 : Class := { plain "java/lang/CharSequence" (some 0) with
  accessFlags := 1537
  interfaces := #[]
  cf := some (fileOf pool4 2 #[.nestMembers #[47, 59]] #[] 1537 66 #[] #[])
  fields := #[]
  methods := #[]
  instanceTypes := #[]
  staticTypes := #[]
  resolved := Array.replicate 131 none
  statics := none }

def pool5 : Array CpInfo := pool [(1, .class_ 2), (0, u "java/lang/constant/Constable"), (0, .class_ 4), (0, u "java/lang/Object")] 6

/-- java/lang/constant/Constable -/
def k5 : Class := { plain "java/lang/constant/Constable" (some 0) with
  accessFlags := 1537
  interfaces := #[]
  cf := some (fileOf pool5 1 #[] #[] 1537 3 #[] #[])
  fields := #[]
  methods := #[]
  instanceTypes := #[]
  staticTypes := #[]
  resolved := Array.replicate 11 none
  statics := none }

def pool6 : Array CpInfo := pool [(1, .class_ 2), (0, u "java/lang/constant/ConstantDesc"), (0, .class_ 4), (0, u "java/lang/Object")] 32

/-- java/lang/constant/ConstantDesc -/
def k6 : Class := { plain "java/lang/constant/ConstantDesc" (some 0) with
  accessFlags := 1537
  interfaces := #[]
  cf := some (fileOf pool6 1 #[] #[] 1537 3 #[] #[])
  fields := #[]
  methods := #[]
  instanceTypes := #[]
  staticTypes := #[]
  resolved := Array.replicate 37 none
  statics := none }

def pool7 : Array CpInfo := pool [(1, .methodref 2 3), (0, .class_ 4), (0, .nameAndType 5 6), (0, u "java/lang/Object"), (0, u "<init>"), (0, u "()V"), (0, .string 8), (0, u ""), (0, .fieldref 10 11), (0, .class_ 12), (0, .nameAndType 13 14), (0, u "java/lang/String"), (0, u "value"), (0, u "[B"), (0, .fieldref 10 16), (0, .nameAndType 17 18), (0, u "coder"), (0, u "B"), (2, u "hash"), (0, u "I"), (2, u "hashIsZero"), (0, u "Z"), (0, .methodref 10 28), (0, .nameAndType 5 29), (0, u "([CIILjava/lang/Void;)V"), (8, .fieldref 10 39), (0, .nameAndType 40 26), (0, u "COMPACT_STRINGS"), (1, .class_ 44), (1, u "java/lang/StringUTF16"), (0, u "compress"), (1, .methodref 42 48), (0, .nameAndType 49 50), (0, u "coderFromArrayLen"), (0, u "([BI)B"), (56, .class_ 109), (1, u "java/lang/StringLatin1"), (32, u "()Z"), (34, .methodref 42 178), (0, .nameAndType 45 179), (0, u "([CII)[B"), (154, u "()I"), (0, .methodref 10 336), (0, .nameAndType 17 337), (0, u "()B"), (154, .methodref 10 493), (0, .nameAndType 494 142), (0, u "isLatin1"), (10, .methodref 10 506), (0, .nameAndType 507 334), (0, u "length"), (5, u "checkFromToIndex"), (9, u "checkBoundsBeginEnd"), (0, u "(III)V"), (50, .class_ 576), (0, u "java/lang/CharSequence"), (22, u "CASE_INSENSITIVE_ORDER"), (0, u "Ljava/util/Comparator;"), (32, .methodref 10 634), (0, .nameAndType 635 636), (0, u "indexOf"), (0, u "(II)I"), (0, .methodref 107 638), (0, .nameAndType 635 639), (0, u "([BIII)I"), (0, .methodref 42 638), (124, u "(I)I"), (244, u "([C)V"), (42, .fieldref 1054 1055), (0, .class_ 1056), (0, .nameAndType 1057 1058), (0, u "jdk/internal/util/Preconditions"), (0, u "SIOOBE_FORMATTER"), (0, u "Ljava/util/function/BiFunction;"), (3, .methodref 1054 1063), (0, .nameAndType 513 1064), (0, u "(IIILjava/util/function/BiFunction;)I"), (36, u "serialPersistentFields"), (0, u "[Ljava/io/ObjectStreamField;"), (0, .class_ 1104), (0, u "java/lang/String$CaseInsensitiveComparator"), (1, .class_ 1107), (0, u "java/io/Serializable"), (0, .class_ 1109), (0, u "java/lang/Comparable"), (0, .class_ 1111), (0, u "java/lang/constant/Constable"), (0, .class_ 1113), (0, u "java/lang/constant/ConstantDesc"), (2, u "serialVersionUID"), (0, u "J"), (3, u "REPL"), (0, u "C"), (2, u "LATIN1"), (1, u "UTF16")] 323

def k7m0 : Method := { name := "<init>", desc := "()V", sig := { parameters := [], returnType := none }, accessFlags := 1, code := none }
def k7c1 : Code := { maxStack := 5, maxLocals := 2, code := jdk_42_method_3_code, exceptionTable := #[], attributes := #[] }
def k7m1 : Method := { name := "<init>", desc := "([C)V", sig := { parameters := [(.array .char)], returnType := none }, accessFlags := 1, code := some k7c1 }
def k7c2 : Code := { maxStack := 2, maxLocals := 1, code := jdk_42_method_54_code, exceptionTable := #[], attributes := #[] }
def k7m2 : Method := { name := "length", desc := "()I", sig := { parameters := [], returnType := some .int }, accessFlags := 1, code := some k7c2 }
def k7c3 : Code := { maxStack := 3, maxLocals := 2, code := jdk_42_method_79_code, exceptionTable := #[], attributes := #[] }
def k7m3 : Method := { name := "indexOf", desc := "(I)I", sig := { parameters := [.int], returnType := some .int }, accessFlags := 1, code := some k7c3 }
def k7c4 : Code := { maxStack := 4, maxLocals := 3, code := jdk_42_method_80_code, exceptionTable := #[], attributes := #[] }
def k7m4 : Method := { name := "indexOf", desc := "(II)I", sig := { parameters := [.int, .int], returnType := some .int }, accessFlags := 1, code := some k7c4 }
def k7c5 : Code := { maxStack := 4, maxLocals := 6, code := jdk_42_method_149_code, exceptionTable := #[], attributes := #[] }
def k7m5 : Method := { name := "<init>", desc := "([CIILjava/lang/Void;)V", sig := { parameters := [(.array .char), .int, .int, (.object "java/lang/Void")], returnType := none }, accessFlags := 2, code := some k7c5 }
def k7c6 : Code := { maxStack := 1, maxLocals := 1, code := jdk_42_method_152_code, exceptionTable := #[], attributes := #[] }
def k7m6 : Method := { name := "coder", desc := "()B", sig := { parameters := [], returnType := some .byte }, accessFlags := 0, code := some k7c6 }
def k7c7 : Code := { maxStack := 1, maxLocals := 1, code := jdk_42_method_154_code, exceptionTable := #[], attributes := #[] }
def k7m7 : Method := { name := "isLatin1", desc := "()Z", sig := { parameters := [], returnType := some .boolean }, accessFlags := 0, code := some k7c7 }
def k7c8 : Code := { maxStack := 4, maxLocals := 3, code := jdk_42_method_158_code, exceptionTable := #[], attributes := #[] }
def k7m8 : Method := { name := "checkBoundsBeginEnd", desc := "(III)V", sig := { parameters := [.int, .int, .int], returnType := none }, accessFlags := 8, code := some k7c8 }
/-- java/lang/String -/
def k7 : Class := { plain "java/lang/String" (some 0) with
  accessFlags := 49
  interfaces := #[2, 3, 4, 5, 6]
  cf := some (fileOf pool7 10 #[.nestMembers #[1103]] #[{ accessFlags := 1, nameIndex := 5, descriptorIndex := 6, attributes := #[] }, { accessFlags := 1, nameIndex := 5, descriptorIndex := 1010, attributes := #[] }, { accessFlags := 1, nameIndex := 507, descriptorIndex := 334, attributes := #[] }, { accessFlags := 1, nameIndex := 635, descriptorIndex := 765, attributes := #[] }, { accessFlags := 1, nameIndex := 635, descriptorIndex := 636, attributes := #[] }, { accessFlags := 2, nameIndex := 5, descriptorIndex := 29, attributes := #[] }, { accessFlags := 0, nameIndex := 17, descriptorIndex := 337, attributes := #[] }, { accessFlags := 0, nameIndex := 494, descriptorIndex := 142, attributes := #[] }, { accessFlags := 8, nameIndex := 523, descriptorIndex := 524, attributes := #[] }] 49 2 #[1106, 1108, 575, 1110, 1112] #[{ accessFlags := 18, nameIndex := 13, descriptorIndex := 14, attributes := #[] }, { accessFlags := 18, nameIndex := 17, descriptorIndex := 18, attributes := #[] }, { accessFlags := 2, nameIndex := 21, descriptorIndex := 22, attributes := #[] }, { accessFlags := 2, nameIndex := 25, descriptorIndex := 26, attributes := #[] }, { accessFlags := 26, nameIndex := 1116, descriptorIndex := 1117, attributes := #[] }, { accessFlags := 24, nameIndex := 40, descriptorIndex := 26, attributes := #[] }, { accessFlags := 26, nameIndex := 1101, descriptorIndex := 1102, attributes := #[] }, { accessFlags := 26, nameIndex := 1121, descriptorIndex := 1122, attributes := #[] }, { accessFlags := 25, nameIndex := 599, descriptorIndex := 600, attributes := #[] }, { accessFlags := 24, nameIndex := 1125, descriptorIndex := 18, attributes := #[] }, { accessFlags := 24, nameIndex := 1127, descriptorIndex := 18, attributes := #[] }])
  fields := #[{ name := "value", type := (.array .byte), accessFlags := 18, slot := 0, constantValue := 0 }, { name := "coder", type := .byte, accessFlags := 18, slot := 1, constantValue := 0 }, { name := "hash", type := .int, accessFlags := 2, slot := 2, constantValue := 0 }, { name := "hashIsZero", type := .boolean, accessFlags := 2, slot := 3, constantValue := 0 }, { name := "serialVersionUID", type := .long, accessFlags := 26, slot := 0, constantValue := 0 }, { name := "COMPACT_STRINGS", type := .boolean, accessFlags := 24, slot := 1, constantValue := 0 }, { name := "serialPersistentFields", type := (.array (.object "java/io/ObjectStreamField")), accessFlags := 26, slot := 2, constantValue := 0 }, { name := "REPL", type := .char, accessFlags := 26, slot := 3, constantValue := 0 }, { name := "CASE_INSENSITIVE_ORDER", type := (.object "java/util/Comparator"), accessFlags := 25, slot := 4, constantValue := 0 }, { name := "LATIN1", type := .byte, accessFlags := 24, slot := 5, constantValue := 0 }, { name := "UTF16", type := .byte, accessFlags := 24, slot := 6, constantValue := 0 }]
  methods := #[k7m0, k7m1, k7m2, k7m3, k7m4, k7m5, k7m6, k7m7, k7m8]
  instanceTypes := #[(.array .byte), .byte, .int, .boolean]
  staticTypes := #[.long, .boolean, (.array (.object "java/io/ObjectStreamField")), .char, (.object "java/util/Comparator"), .byte, .byte]
  resolved := Array.replicate 1451 none
  statics := some 0 }

def pool8 : Array CpInfo := pool [(2, .class_ 4), (1, u "java/lang/Object"), (0, u "<init>"), (0, u "()V"), (1, .class_ 10), (1, u "com/example/archive_packager/archivepackager/LocaleCharset"), (0, u "CHARSET"), (0, u "Ljava/nio/charset/Charset;"), (12, .class_ 27), (1, u "java/lang/String"), (15, .integer 65533), (0, .methodref 25 45), (0, .nameAndType 46 47), (0, u "indexOf"), (0, u "(I)I"), (20, u "lostBytes"), (0, u "(Ljava/lang/String;)Z"), (35, u "REPLACEMENT"), (0, u "C")] 27

def k8m0 : Method := { name := "<init>", desc := "()V", sig := { parameters := [], returnType := none }, accessFlags := 2, code := none }
def k8c1 : Code := { maxStack := 2, maxLocals := 1, code := prog_3_method_6_code, exceptionTable := #[], attributes := #[] }
def k8m1 : Method := { name := "lostBytes", desc := "(Ljava/lang/String;)Z", sig := { parameters := [(.object "java/lang/String")], returnType := some .boolean }, accessFlags := 9, code := some k8c1 }
/-- com/example/archive_packager/archivepackager/LocaleCharset -/
def k8 : Class := { plain "com/example/archive_packager/archivepackager/LocaleCharset" (some 0) with
  accessFlags := 33
  interfaces := #[]
  cf := some (fileOf pool8 8 #[] #[{ accessFlags := 2, nameIndex := 5, descriptorIndex := 6, attributes := #[] }, { accessFlags := 9, nameIndex := 68, descriptorIndex := 69, attributes := #[] }] 33 2 #[] #[{ accessFlags := 26, nameIndex := 11, descriptorIndex := 12, attributes := #[] }, { accessFlags := 26, nameIndex := 105, descriptorIndex := 106, attributes := #[] }])
  fields := #[{ name := "CHARSET", type := (.object "java/nio/charset/Charset"), accessFlags := 26, slot := 0, constantValue := 0 }, { name := "REPLACEMENT", type := .char, accessFlags := 26, slot := 1, constantValue := 0 }]
  methods := #[k8m0, k8m1]
  instanceTypes := #[]
  staticTypes := #[(.object "java/nio/charset/Charset"), .char]
  resolved := Array.replicate 134 none
  statics := none }

def pool9 : Array CpInfo := pool [(4, .class_ 6), (1, u "java/lang/Object"), (0, u "<init>"), (0, u "()V"), (5, .class_ 16), (1, u "java/lang/StringLatin1"), (71, .methodref 14 89), (0, .nameAndType 90 91), (0, u "canEncode"), (0, u "(I)Z"), (6, u "([BIII)I"), (2, u "indexOf"), (19, u "$assertionsDisabled"), (0, u "Z"), (98, .class_ 223), (1, u "java/lang/StringLatin1$LinesSpliterator"), (166, .class_ 391), (0, u "java/lang/StringLatin1$CharsSpliterator")] 3

def k9m0 : Method := { name := "<init>", desc := "()V", sig := { parameters := [], returnType := none }, accessFlags := 0, code := none }
def k9c1 : Code := { maxStack := 2, maxLocals := 1, code := jdk_43_method_4_code, exceptionTable := #[], attributes := #[] }
def k9m1 : Method := { name := "canEncode", desc := "(I)Z", sig := { parameters := [.int], returnType := some .boolean }, accessFlags := 9, code := some k9c1 }
def k9c2 : Code := { maxStack := 4, maxLocals := 4, code := jdk_43_method_22_code, exceptionTable := #[], attributes := #[] }
def k9m2 : Method := { name := "indexOf", desc := "([BIII)I", sig := { parameters := [(.array .byte), .int, .int, .int], returnType := some .int }, accessFlags := 9, code := some k9c2 }
/-- java/lang/StringLatin1 -/
def k9 : Class := { plain "java/lang/StringLatin1" (some 0) with
  accessFlags := 48
  interfaces := #[]
  cf := some (fileOf pool9 14 #[.nestMembers #[390, 221]] #[{ accessFlags := 0, nameIndex := 7, descriptorIndex := 8, attributes := #[] }, { accessFlags := 9, nameIndex := 90, descriptorIndex := 91, attributes := #[] }, { accessFlags := 9, nameIndex := 101, descriptorIndex := 98, attributes := #[] }] 48 4 #[] #[{ accessFlags := 4120, nameIndex := 121, descriptorIndex := 122, attributes := #[] }])
  fields := #[{ name := "$assertionsDisabled", type := .boolean, accessFlags := 4120, slot := 0, constantValue := 0 }]
  methods := #[k9m0, k9m1, k9m2]
  instanceTypes := #[]
  staticTypes := #[.boolean]
  resolved := Array.replicate 395 none
  statics := none }

def pool10 : Array CpInfo := pool [(3, .class_ 4), (0, u "java/lang/String"), (1, .class_ 8), (1, u "java/lang/Object"), (0, u "<init>"), (0, u "()V"), (0, .methodref 12 13), (0, .class_ 14), (0, .nameAndType 15 16), (0, u "java/lang/StringUTF16"), (0, u "newBytesLength"), (0, u "(I)I"), (3, .integer 1073741823), (23, .fieldref 12 45), (0, .nameAndType 46 47), (0, u "$assertionsDisabled"), (0, u "Z"), (0, .methodref 12 49), (0, .nameAndType 50 51), (0, u "length"), (0, u "([B)I"), (7, .fieldref 12 60), (0, .nameAndType 61 62), (0, u "HI_BYTE_SHIFT"), (0, u "I"), (0, .fieldref 12 64), (0, .nameAndType 65 62), (0, u "LO_BYTE_SHIFT"), (5, .methodref 12 72), (0, .nameAndType 73 74), (0, u "getChar"), (0, u "([BI)C"), (21, .methodref 12 97), (0, .nameAndType 98 99), (0, u "checkBoundsBeginEnd"), (0, u "(II[B)V"), (7, .methodref 12 108), (0, .nameAndType 109 110), (0, u "newBytesFor"), (0, u "(I)[B"), (0, .methodref 12 112), (0, .nameAndType 113 114), (0, u "putChar"), (0, u "([BII)V"), (0, .methodref 12 116), (0, .nameAndType 117 118), (0, u "compress"), (0, u "([CI[BII)I"), (0, .methodref 12 120), (0, .nameAndType 121 122), (0, u "toBytes"), (0, u "([CII)[B"), (60, .methodref 184 185), (0, .class_ 186), (0, .nameAndType 187 188), (0, u "java/lang/Math"), (0, u "min"), (0, u "(II)I"), (35, .methodref 184 225), (0, .nameAndType 226 188), (0, u "max"), (0, .integer 65536), (0, .methodref 12 229), (0, .nameAndType 230 231), (0, u "indexOfChar"), (0, u "([BIII)I"), (9, .methodref 3 242), (0, .nameAndType 98 243), (0, u "(III)V"), (0, .methodref 12 245), (0, .nameAndType 246 231), (0, u "indexOfCharUnsafe"), (14, u "coderFromArrayLen"), (0, u "([BI)B"), (5, u "indexOf"), (100, .class_ 371), (1, u "java/lang/StringUTF16$LinesSpliterator"), (58, u "MAX_LENGTH"), (196, .class_ 628), (0, u "java/lang/StringUTF16$CodePointsSpliterator"), (0, .class_ 630), (0, u "java/lang/StringUTF16$CharsSpliterator")] 4

def k10m0 : Method := { name := "<init>", desc := "()V", sig := { parameters := [], returnType := none }, accessFlags := 0, code := none }
def k10c1 : Code := { maxStack := 1, maxLocals := 1, code := jdk_52_method_2_code, exceptionTable := #[], attributes := #[] }
def k10m1 : Method := { name := "newBytesFor", desc := "(I)[B", sig := { parameters := [.int], returnType := some (.array .byte) }, accessFlags := 9, code := some k10c1 }
def k10c2 : Code := { maxStack := 4, maxLocals := 1, code := jdk_52_method_3_code, exceptionTable := #[], attributes := #[] }
def k10m2 : Method := { name := "newBytesLength", desc := "(I)I", sig := { parameters := [.int], returnType := some .int }, accessFlags := 9, code := some k10c2 }
def k10c3 : Code := { maxStack := 4, maxLocals := 3, code := jdk_52_method_4_code, exceptionTable := #[], attributes := #[] }
def k10m3 : Method := { name := "putChar", desc := "([BII)V", sig := { parameters := [(.array .byte), .int, .int], returnType := none }, accessFlags := 8, code := some k10c3 }
def k10c4 : Code := { maxStack := 3, maxLocals := 2, code := jdk_52_method_5_code, exceptionTable := #[], attributes := #[] }
def k10m4 : Method := { name := "getChar", desc := "([BI)C", sig := { parameters := [(.array .byte), .int], returnType := some .char }, accessFlags := 8, code := some k10c4 }
def k10c5 : Code := { maxStack := 2, maxLocals := 1, code := jdk_52_method_6_code, exceptionTable := #[], attributes := #[] }
def k10m5 : Method := { name := "length", desc := "([B)I", sig := { parameters := [(.array .byte)], returnType := some .int }, accessFlags := 9, code := some k10c5 }
def k10c6 : Code := { maxStack := 4, maxLocals := 5, code := jdk_52_method_14_code, exceptionTable := #[], attributes := #[] }
def k10m6 : Method := { name := "toBytes", desc := "([CII)[B", sig := { parameters := [(.array .char), .int, .int], returnType := some (.array .byte) }, accessFlags := 9, code := some k10c6 }
def k10c7 : Code := { maxStack := 2, maxLocals := 2, code := jdk_52_method_15_code, exceptionTable := #[], attributes := #[] }
def k10m7 : Method := { name := "coderFromArrayLen", desc := "([BI)B", sig := { parameters := [(.array .byte), .int], returnType := some .byte }, accessFlags := 8, code := some k10c7 }
def k10c8 : Code := { maxStack := 5, maxLocals := 6, code := jdk_52_method_16_code, exceptionTable := #[], attributes := #[] }
def k10m8 : Method := { name := "compress", desc := "([CII)[B", sig := { parameters := [(.array .char), .int, .int], returnType := some (.array .byte) }, accessFlags := 9, code := some k10c8 }
def k10c9 : Code := { maxStack := 3, maxLocals := 7, code := jdk_52_method_21_code, exceptionTable := #[], attributes := #[] }
def k10m9 : Method := { name := "compress", desc := "([CI[BII)I", sig := { parameters := [(.array .char), .int, (.array .byte), .int, .int], returnType := some .int }, accessFlags := 9, code := some k10c9 }
def k10c10 : Code := { maxStack := 4, maxLocals := 4, code := jdk_52_method_40_code, exceptionTable := #[], attributes := #[] }
def k10m10 : Method := { name := "indexOf", desc := "([BIII)I", sig := { parameters := [(.array .byte), .int, .int, .int], returnType := some .int }, accessFlags := 9, code := some k10c10 }
def k10c11 : Code := { maxStack := 4, maxLocals := 4, code := jdk_52_method_47_code, exceptionTable := #[], attributes := #[] }
def k10m11 : Method := { name := "indexOfChar", desc := "([BIII)I", sig := { parameters := [(.array .byte), .int, .int, .int], returnType := some .int }, accessFlags := 10, code := some k10c11 }
def k10c12 : Code := { maxStack := 2, maxLocals := 5, code := jdk_52_method_48_code, exceptionTable := #[], attributes := #[] }
def k10m12 : Method := { name := "indexOfCharUnsafe", desc := "([BIII)I", sig := { parameters := [(.array .byte), .int, .int, .int], returnType := some .int }, accessFlags := 10, code := some k10c12 }
def k10c13 : Code := { maxStack := 3, maxLocals := 3, code := jdk_52_method_93_code, exceptionTable := #[], attributes := #[] }
def k10m13 : Method := { name := "checkBoundsBeginEnd", desc := "(II[B)V", sig := { parameters := [.int, .int, (.array .byte)], returnType := none }, accessFlags := 9, code := some k10c13 }
/-- java/lang/StringUTF16 -/
def k10 : Class := { plain "java/lang/StringUTF16" (some 0) with
  accessFlags := 48
  interfaces := #[]
  cf := some (fileOf pool10 12 #[.nestMembers #[627, 629, 369]] #[{ accessFlags := 0, nameIndex := 9, descriptorIndex := 10, attributes := #[] }, { accessFlags := 9, nameIndex := 109, descriptorIndex := 110, attributes := #[] }, { accessFlags := 9, nameIndex := 15, descriptorIndex := 16, attributes := #[] }, { accessFlags := 8, nameIndex := 113, descriptorIndex := 114, attributes := #[] }, { accessFlags := 8, nameIndex := 73, descriptorIndex := 74, attributes := #[] }, { accessFlags := 9, nameIndex := 50, descriptorIndex := 51, attributes := #[] }, { accessFlags := 9, nameIndex := 121, descriptorIndex := 122, attributes := #[] }, { accessFlags := 8, nameIndex := 261, descriptorIndex := 262, attributes := #[] }, { accessFlags := 9, nameIndex := 117, descriptorIndex := 122, attributes := #[] }, { accessFlags := 9, nameIndex := 117, descriptorIndex := 118, attributes := #[] }, { accessFlags := 9, nameIndex := 268, descriptorIndex := 231, attributes := #[] }, { accessFlags := 10, nameIndex := 230, descriptorIndex := 231, attributes := #[] }, { accessFlags := 10, nameIndex := 246, descriptorIndex := 231, attributes := #[] }, { accessFlags := 9, nameIndex := 98, descriptorIndex := 99, attributes := #[] }] 48 6 #[] #[{ accessFlags := 26, nameIndex := 61, descriptorIndex := 62, attributes := #[] }, { accessFlags := 26, nameIndex := 65, descriptorIndex := 62, attributes := #[] }, { accessFlags := 24, nameIndex := 430, descriptorIndex := 62, attributes := #[] }, { accessFlags := 4120, nameIndex := 46, descriptorIndex := 47, attributes := #[] }])
  fields := #[{ name := "HI_BYTE_SHIFT", type := .int, accessFlags := 26, slot := 0, constantValue := 0 }, { name := "LO_BYTE_SHIFT", type := .int, accessFlags := 26, slot := 1, constantValue := 0 }, { name := "MAX_LENGTH", type := .int, accessFlags := 24, slot := 2, constantValue := 0 }, { name := "$assertionsDisabled", type := .boolean, accessFlags := 4120, slot := 3, constantValue := 0 }]
  methods := #[k10m0, k10m1, k10m2, k10m3, k10m4, k10m5, k10m6, k10m7, k10m8, k10m9, k10m10, k10m11, k10m12, k10m13]
  instanceTypes := #[]
  staticTypes := #[.int, .int, .int, .boolean]
  resolved := Array.replicate 635 none
  statics := some 1 }

def pool11 : Array CpInfo := pool [(1, .class_ 2), (0, u "java/lang/Math"), (1, .class_ 6), (1, u "java/lang/Object"), (0, u "<init>"), (0, u "()V"), (89, .class_ 100), (1, u "java/lang/Math$RandomNumberGeneratorHolder"), (71, u "negativeZeroFloatBits"), (0, u "J"), (2, u "negativeZeroDoubleBits"), (21, u "max"), (2, u "min"), (43, u "$assertionsDisabled"), (0, u "Z"), (88, u "(II)I"), (2, u "twoToTheDoubleScaleDown"), (0, u "D"), (4, u "twoToTheDoubleScaleUp"), (9, u "E"), (3, u "PI"), (2, u "TAU"), (2, u "DEGREES_TO_RADIANS"), (0, u "RADIANS_TO_DEGREES")] 94

def k11m0 : Method := { name := "<init>", desc := "()V", sig := { parameters := [], returnType := none }, accessFlags := 2, code := none }
def k11c1 : Code := { maxStack := 2, maxLocals := 2, code := jdk_29_method_65_code, exceptionTable := #[], attributes := #[] }
def k11m1 : Method := { name := "max", desc := "(II)I", sig := { parameters := [.int, .int], returnType := some .int }, accessFlags := 9, code := some k11c1 }
def k11c2 : Code := { maxStack := 2, maxLocals := 2, code := jdk_29_method_69_code, exceptionTable := #[], attributes := #[] }
def k11m2 : Method := { name := "min", desc := "(II)I", sig := { parameters := [.int, .int], returnType := some .int }, accessFlags := 9, code := some k11c2 }
/-- java/lang/Math -/
def k11 : Class := { plain "java/lang/Math" (some 0) with
  accessFlags := 49
  interfaces := #[]
  cf := some (fileOf pool11 1 #[.nestMembers #[98]] #[{ accessFlags := 2, nameIndex := 7, descriptorIndex := 8, attributes := #[] }, { accessFlags := 9, nameIndex := 198, descriptorIndex := 335, attributes := #[] }, { accessFlags := 9, nameIndex := 201, descriptorIndex := 335, attributes := #[] }] 49 4 #[] #[{ accessFlags := 25, nameIndex := 354, descriptorIndex := 339, attributes := #[] }, { accessFlags := 25, nameIndex := 358, descriptorIndex := 339, attributes := #[] }, { accessFlags := 25, nameIndex := 361, descriptorIndex := 339, attributes := #[] }, { accessFlags := 26, nameIndex := 364, descriptorIndex := 339, attributes := #[] }, { accessFlags := 26, nameIndex := 365, descriptorIndex := 339, attributes := #[] }, { accessFlags := 26, nameIndex := 172, descriptorIndex := 173, attributes := #[] }, { accessFlags := 26, nameIndex := 176, descriptorIndex := 173, attributes := #[] }, { accessFlags := 8, nameIndex := 344, descriptorIndex := 339, attributes := #[] }, { accessFlags := 8, nameIndex := 338, descriptorIndex := 339, attributes := #[] }, { accessFlags := 4120, nameIndex := 245, descriptorIndex := 246, attributes := #[] }])
  fields := #[{ name := "E", type := .double, accessFlags := 25, slot := 0, constantValue := 0 }, { name := "PI", type := .double, accessFlags := 25, slot := 1, constantValue := 0 }, { name := "TAU", type := .double, accessFlags := 25, slot := 2, constantValue := 0 }, { name := "DEGREES_TO_RADIANS", type := .double, accessFlags := 26, slot := 3, constantValue := 0 }, { name := "RADIANS_TO_DEGREES", type := .double, accessFlags := 26, slot := 4, constantValue := 0 }, { name := "negativeZeroFloatBits", type := .long, accessFlags := 26, slot := 5, constantValue := 0 }, { name := "negativeZeroDoubleBits", type := .long, accessFlags := 26, slot := 6, constantValue := 0 }, { name := "twoToTheDoubleScaleUp", type := .double, accessFlags := 8, slot := 7, constantValue := 0 }, { name := "twoToTheDoubleScaleDown", type := .double, accessFlags := 8, slot := 8, constantValue := 0 }, { name := "$assertionsDisabled", type := .boolean, accessFlags := 4120, slot := 9, constantValue := 0 }]
  methods := #[k11m0, k11m1, k11m2]
  instanceTypes := #[]
  staticTypes := #[.double, .double, .double, .double, .double, .long, .long, .double, .double, .boolean]
  resolved := Array.replicate 460 none
  statics := none }

def pool12 : Array CpInfo := pool [(2, .class_ 4), (1, u "java/lang/Object"), (0, u "<init>"), (0, u "()V"), (17, .class_ 26), (1, u "jdk/internal/util/Preconditions"), (20, u "checkFromToIndex"), (7, .class_ 56), (0, u "jdk/internal/util/Preconditions$4"), (57, .class_ 115), (0, u "jdk/internal/util/Preconditions$1"), (7, u "SIOOBE_FORMATTER"), (0, u "Ljava/util/function/BiFunction;"), (0, .class_ 126), (0, u "jdk/internal/util/Preconditions$2"), (3, u "AIOOBE_FORMATTER"), (0, .class_ 132), (0, u "jdk/internal/util/Preconditions$3"), (3, u "IOOBE_FORMATTER"), (46, u "(IIILjava/util/function/BiFunction;)I")] 10

def k12m0 : Method := { name := "<init>", desc := "()V", sig := { parameters := [], returnType := none }, accessFlags := 1, code := none }
def k12c1 : Code := { maxStack := 4, maxLocals := 4, code := jdk_41_method_12_code, exceptionTable := #[], attributes := #[] }
def k12m1 : Method := { name := "checkFromToIndex", desc := "(IIILjava/util/function/BiFunction;)I", sig := { parameters := [.int, .int, .int, (.object "java/util/function/BiFunction")], returnType := some .int }, accessFlags := 9, code := some k12c1 }
/-- jdk/internal/util/Preconditions -/
def k12 : Class := { plain "jdk/internal/util/Preconditions" (some 0) with
  accessFlags := 33
  interfaces := #[]
  cf := some (fileOf pool12 24 #[.nestMembers #[55, 131, 125, 114]] #[{ accessFlags := 1, nameIndex := 5, descriptorIndex := 6, attributes := #[] }, { accessFlags := 9, nameIndex := 47, descriptorIndex := 183, attributes := #[] }] 33 2 #[] #[{ accessFlags := 25, nameIndex := 123, descriptorIndex := 124, attributes := #[] }, { accessFlags := 25, nameIndex := 130, descriptorIndex := 124, attributes := #[] }, { accessFlags := 25, nameIndex := 136, descriptorIndex := 124, attributes := #[] }])
  fields := #[{ name := "SIOOBE_FORMATTER", type := (.object "java/util/function/BiFunction"), accessFlags := 25, slot := 0, constantValue := 0 }, { name := "AIOOBE_FORMATTER", type := (.object "java/util/function/BiFunction"), accessFlags := 25, slot := 1, constantValue := 0 }, { name := "IOOBE_FORMATTER", type := (.object "java/util/function/BiFunction"), accessFlags := 25, slot := 2, constantValue := 0 }]
  methods := #[k12m0, k12m1]
  instanceTypes := #[]
  staticTypes := #[(.object "java/util/function/BiFunction"), (.object "java/util/function/BiFunction"), (.object "java/util/function/BiFunction")]
  resolved := Array.replicate 194 none
  statics := some 2 }

def pool13 : Array CpInfo := pool [(9, u "<init>"), (6, .class_ 18), (1, u "java/lang/Object"), (0, u "()V"), (1, .class_ 23), (1, u "jdk/internal/util/ArraysSupport"), (0, u "LOG2_ARRAY_LONG_INDEX_SCALE"), (0, u "I"), (2, u "U"), (0, u "Ljdk/internal/misc/Unsafe;"), (8, u "BIG_ENDIAN"), (0, u "Z"), (8, u "LOG2_BYTE_BIT_SIZE"), (4, u "LOG2_ARRAY_INT_INDEX_SCALE"), (54, u "JLA"), (0, u "Ljdk/internal/access/JavaLangAccess;"), (11, u "LOG2_ARRAY_BOOLEAN_INDEX_SCALE"), (9, u "LOG2_ARRAY_BYTE_INDEX_SCALE"), (5, u "LOG2_ARRAY_CHAR_INDEX_SCALE"), (5, u "LOG2_ARRAY_SHORT_INDEX_SCALE"), (18, u "LOG2_ARRAY_FLOAT_INDEX_SCALE"), (24, u "LOG2_ARRAY_DOUBLE_INDEX_SCALE"), (89, u "T_BOOLEAN"), (2, u "T_CHAR"), (1, u "T_FLOAT"), (1, u "T_DOUBLE"), (1, u "T_BYTE"), (1, u "T_SHORT"), (1, u "T_INT"), (1, u "T_LONG"), (1, u "SOFT_MAX_ARRAY_LENGTH")] 83

def k13m0 : Method := { name := "<init>", desc := "()V", sig := { parameters := [], returnType := none }, accessFlags := 2, code := none }
/-- jdk/internal/util/ArraysSupport -/
def k13 : Class := { plain "jdk/internal/util/ArraysSupport" (some 0) with
  accessFlags := 33
  interfaces := #[]
  cf := some (fileOf pool13 21 #[] #[{ accessFlags := 2, nameIndex := 9, descriptorIndex := 19, attributes := #[] }] 33 16 #[] #[{ accessFlags := 24, nameIndex := 28, descriptorIndex := 29, attributes := #[] }, { accessFlags := 26, nameIndex := 38, descriptorIndex := 39, attributes := #[] }, { accessFlags := 25, nameIndex := 121, descriptorIndex := 25, attributes := #[] }, { accessFlags := 25, nameIndex := 131, descriptorIndex := 25, attributes := #[] }, { accessFlags := 25, nameIndex := 137, descriptorIndex := 25, attributes := #[] }, { accessFlags := 25, nameIndex := 143, descriptorIndex := 25, attributes := #[] }, { accessFlags := 25, nameIndex := 53, descriptorIndex := 25, attributes := #[] }, { accessFlags := 25, nameIndex := 24, descriptorIndex := 25, attributes := #[] }, { accessFlags := 25, nameIndex := 162, descriptorIndex := 25, attributes := #[] }, { accessFlags := 25, nameIndex := 187, descriptorIndex := 25, attributes := #[] }, { accessFlags := 26, nameIndex := 48, descriptorIndex := 25, attributes := #[] }, { accessFlags := 25, nameIndex := 277, descriptorIndex := 25, attributes := #[] }, { accessFlags := 25, nameIndex := 280, descriptorIndex := 25, attributes := #[] }, { accessFlags := 25, nameIndex := 282, descriptorIndex := 25, attributes := #[] }, { accessFlags := 25, nameIndex := 284, descriptorIndex := 25, attributes := #[] }, { accessFlags := 25, nameIndex := 286, descriptorIndex := 25, attributes := #[] }, { accessFlags := 25, nameIndex := 288, descriptorIndex := 25, attributes := #[] }, { accessFlags := 25, nameIndex := 290, descriptorIndex := 25, attributes := #[] }, { accessFlags := 25, nameIndex := 292, descriptorIndex := 25, attributes := #[] }, { accessFlags := 26, nameIndex := 108, descriptorIndex := 109, attributes := #[] }, { accessFlags := 25, nameIndex := 294, descriptorIndex := 25, attributes := #[] }])
  fields := #[{ name := "U", type := (.object "jdk/internal/misc/Unsafe"), accessFlags := 24, slot := 0, constantValue := 0 }, { name := "BIG_ENDIAN", type := .boolean, accessFlags := 26, slot := 1, constantValue := 0 }, { name := "LOG2_ARRAY_BOOLEAN_INDEX_SCALE", type := .int, accessFlags := 25, slot := 2, constantValue := 0 }, { name := "LOG2_ARRAY_BYTE_INDEX_SCALE", type := .int, accessFlags := 25, slot := 3, constantValue := 0 }, { name := "LOG2_ARRAY_CHAR_INDEX_SCALE", type := .int, accessFlags := 25, slot := 4, constantValue := 0 }, { name := "LOG2_ARRAY_SHORT_INDEX_SCALE", type := .int, accessFlags := 25, slot := 5, constantValue := 0 }, { name := "LOG2_ARRAY_INT_INDEX_SCALE", type := .int, accessFlags := 25, slot := 6, constantValue := 0 }, { name := "LOG2_ARRAY_LONG_INDEX_SCALE", type := .int, accessFlags := 25, slot := 7, constantValue := 0 }, { name := "LOG2_ARRAY_FLOAT_INDEX_SCALE", type := .int, accessFlags := 25, slot := 8, constantValue := 0 }, { name := "LOG2_ARRAY_DOUBLE_INDEX_SCALE", type := .int, accessFlags := 25, slot := 9, constantValue := 0 }, { name := "LOG2_BYTE_BIT_SIZE", type := .int, accessFlags := 26, slot := 10, constantValue := 0 }, { name := "T_BOOLEAN", type := .int, accessFlags := 25, slot := 11, constantValue := 0 }, { name := "T_CHAR", type := .int, accessFlags := 25, slot := 12, constantValue := 0 }, { name := "T_FLOAT", type := .int, accessFlags := 25, slot := 13, constantValue := 0 }, { name := "T_DOUBLE", type := .int, accessFlags := 25, slot := 14, constantValue := 0 }, { name := "T_BYTE", type := .int, accessFlags := 25, slot := 15, constantValue := 0 }, { name := "T_SHORT", type := .int, accessFlags := 25, slot := 16, constantValue := 0 }, { name := "T_INT", type := .int, accessFlags := 25, slot := 17, constantValue := 0 }, { name := "T_LONG", type := .int, accessFlags := 25, slot := 18, constantValue := 0 }, { name := "JLA", type := (.object "jdk/internal/access/JavaLangAccess"), accessFlags := 26, slot := 19, constantValue := 0 }, { name := "SOFT_MAX_ARRAY_LENGTH", type := .int, accessFlags := 25, slot := 20, constantValue := 0 }]
  methods := #[k13m0]
  instanceTypes := #[]
  staticTypes := #[(.object "jdk/internal/misc/Unsafe"), .boolean, .int, .int, .int, .int, .int, .int, .int, .int, .int, .int, .int, .int, .int, .int, .int, .int, .int, (.object "jdk/internal/access/JavaLangAccess"), .int]
  resolved := Array.replicate 378 none
  statics := none }

def pool14 : Array CpInfo := pool [(1, u "java/lang/Cloneable"), (0, .class_ 1), (0, u "java/lang/Object"), (0, .class_ 3)] 3

/-- java/lang/Cloneable -/
def k14 : Class := { plain "java/lang/Cloneable" (some 0) with
  accessFlags := 1537
  interfaces := #[]
  cf := some (fileOf pool14 2 #[] #[] 1537 4 #[] #[])
  fields := #[]
  methods := #[]
  instanceTypes := #[]
  staticTypes := #[]
  resolved := Array.replicate 8 none
  statics := none }

/-- the primitive byte -/
def k15 : Class := { plain "byte" none with kind := .primitive 'B', accessFlags := 0x411 }
/-- [B -/
def k16 : Class := { plain "[B" (some 0) with kind := .array 15 .byte, interfaces := #[14, 2], accessFlags := 1041 }

/-- the primitive char -/
def k17 : Class := { plain "char" none with kind := .primitive 'C', accessFlags := 0x411 }
/-- [C -/
def k18 : Class := { plain "[C" (some 0) with kind := .array 17 .char, interfaces := #[14, 2], accessFlags := 1041 }

/-- the primitive int -/
def k19 : Class := { plain "int" none with kind := .primitive 'I', accessFlags := 0x411 }
/-- [I -/
def k20 : Class := { plain "[I" (some 0) with kind := .array 19 .int, interfaces := #[14, 2], accessFlags := 1041 }

def heap : Heap := #[{ cls := 7, slots := #[.long 0, .int 1, .null, .int 0, .null, .int 0, .int 0], vm := .statics 7 },
  { cls := 10, slots := #[.int 0, .int 8, .int 0, .int 1], vm := .statics 10 },
  { cls := 12, slots := #[.null, .null, .null], vm := .statics 12 }]
def classes : Array Class := #[k0, k1, k2, k3, k4, k5, k6, k7, k8, k9, k10, k11, k12, k13, k14, k15, k16, k17, k18, k19, k20]
def interned : List (Array UInt16 × Addr) := []
def slotsUsed : Nat := 14
def theMethod : MethodId := ⟨1, 3⟩
def args0 : Array Value := #[.int 5, .int 0, .int 0, .int 0, .int 0]
def aboutOver (below : List Frame) : State where
  vm := { classes := classes, interned := interned.toArray }
  heap := heap
  slotsUsed := slotsUsed
  threads := #[{ frames := .invoking theMethod args0 :: below }]
def below0 : List Frame := [.native { method := ⟨0, 0⟩, args := #[] }]
def about1 : State := aboutOver below0
def p0 : Program := .bare "" "" ""
def e0 : Env := launch0.env 0 0 0
theorem w_frames : about1.frames = Frame.invoking theMethod args0 :: below0 := rfl
set_option maxRecDepth 65536 in
theorem w_args : argsFit about1.vm theMethod args0 = true := by decide +kernel
set_option maxRecDepth 65536 in
theorem w_heap : heapFits about1 = true := by decide +kernel
set_option maxRecDepth 65536 in
theorem w_runnable : about1.curStatus? = some .runnable := by decide +kernel
set_option maxRecDepth 65536 in
theorem w_alone : about1.alone = true := by decide +kernel
set_option maxRecDepth 65536 in
theorem w_named : about1.methodNamed? x = some theMethod := by decide +kernel
set_option maxRecDepth 65536 in
theorem w_hears : about1.hears theMethod below0 = true := by decide +kernel
set_option maxRecDepth 65536 in
theorem w_ripe : about1.ripe theMethod args0 below0 = true := by decide +kernel
theorem w_running : about1.status = .running := rfl
set_option maxRecDepth 65536 in
theorem w_room : about1.hasRoom e0.platform room_1 = true :=
  launch0.hasRoom_least _ room_1 (by decide +kernel) (by decide +kernel) (by decide +kernel) (by decide +kernel) (by decide +kernel) (by decide +kernel)
theorem allAtoms_all (ts : List Jvm.Cond) (a : Array Jvm.Value) (st : Jvm.State) : (allAtoms ts).before a st = ts.all (fun c => c.before a st) := by
  induction ts with
  | nil => rfl
  | cons c t ih =>
    show (Jvm.Cond.and c (allAtoms t)).before a st = _
    rw [Jvm.Cond.before_and, ih, List.all_cons]
def words1 : List Jvm.Cond := Jvm.Cond.code x code maxLocals ret :: tables_1
/-- a 'code' word, met by the world's own term for the bytes: nothing is compared byte by byte -/
theorem code_word {y : MethodName} {bytes : ByteArray} {mx : Nat} {rt : Option FieldType} {a : Array Value} {s : State} {m : MethodId} {meth : Method} {c : Code} (h1 : s.methodNamed? y = some m) (h2 : s.vm.method? m = some meth) (h3 : meth.code = some c) (h4 : c.code = bytes)
    (h5 : (c.maxLocals == mx && c.exceptionTable.isEmpty && decide (c.maxStack ≤ mostOperands) && decide (meth.sig.returnType = rt) && !meth.locks && decide (parseMethodDescriptor y.desc = some meth.sig)) = true) : (Jvm.Cond.code y bytes mx rt).before a s = true := by
  simp only [Bool.and_eq_true, beq_iff_eq, Bool.not_eq_true', decide_eq_true_eq] at h5
  obtain ⟨⟨⟨⟨⟨g1, g2⟩, g3⟩, g4⟩, g5⟩, g6⟩ := h5
  simp [Cond.before, Cond.holds, Cond.value, h1, h2, h3, h4, g1, g2, g3, g4, g5, g6]
def isCode : Jvm.Cond → Bool
  | .code _ _ _ _ => true
  | _ => false
theorem all_split {L : List Jvm.Cond} {P : Jvm.Cond → Bool} (h1 : L.all (fun c => isCode c || P c) = true) (h2 : ∀ c ∈ L.filter isCode, P c = true) : L.all P = true := by
  refine List.all_eq_true.mpr fun c hc => ?_
  have h := List.all_eq_true.mp h1 c hc
  rcases Bool.eq_false_or_eq_true (isCode c) with hi | hi
  · exact h2 c (List.mem_filter.mpr ⟨hc, hi⟩)
  · simpa [hi] using h
set_option maxRecDepth 65536 in
theorem w_c0 : (Jvm.Cond.code x code maxLocals ret).before args0 about1 = true := code_word (m := ⟨1, 3⟩) (meth := k1m3) (c := k1c3) (by decide +kernel) rfl rfl rfl (by decide +kernel)
set_option maxRecDepth 65536 in
theorem w_c1 : (Jvm.Cond.code ({ cls := "com/example/archive_packager/archivepackager/LocaleCharsetLostBytesPinLaw", name := "draw", desc := "(I)C" } : Jvm.MethodName) method_2_code (1 : Nat) (Option.some Jvm.ClassFile.FieldType.char)).before args0 about1 = true := code_word (m := ⟨1, 1⟩) (meth := k1m1) (c := k1c1) (by decide +kernel) rfl rfl rfl (by decide +kernel)
set_option maxRecDepth 65536 in
theorem w_c2 : (Jvm.Cond.code ({ cls := "com/example/archive_packager/archivepackager/LocaleCharsetLostBytesPinLaw", name := "build", desc := "(ICCCC)[C" } : Jvm.MethodName) method_3_code (5 : Nat) (Option.some (Jvm.ClassFile.FieldType.array Jvm.ClassFile.FieldType.char))).before args0 about1 = true := code_word (m := ⟨1, 2⟩) (meth := k1m2) (c := k1c2) (by decide +kernel) rfl rfl rfl (by decide +kernel)
set_option maxRecDepth 65536 in
theorem w_c3 : (Jvm.Cond.code ({ cls := "java/lang/String", name := "<init>", desc := "([C)V" } : Jvm.MethodName) jdk_42_method_3_code (2 : Nat) (Option.none : Option Jvm.ClassFile.FieldType)).before args0 about1 = true := code_word (m := ⟨7, 1⟩) (meth := k7m1) (c := k7c1) (by decide +kernel) rfl rfl rfl (by decide +kernel)
set_option maxRecDepth 65536 in
theorem w_c4 : (Jvm.Cond.code ({ cls := "java/lang/String", name := "<init>", desc := "([CIILjava/lang/Void;)V" } : Jvm.MethodName) jdk_42_method_149_code (6 : Nat) (Option.none : Option Jvm.ClassFile.FieldType)).before args0 about1 = true := code_word (m := ⟨7, 5⟩) (meth := k7m5) (c := k7c5) (by decide +kernel) rfl rfl rfl (by decide +kernel)
set_option maxRecDepth 65536 in
theorem w_c5 : (Jvm.Cond.code ({ cls := "java/lang/Object", name := "<init>", desc := "()V" } : Jvm.MethodName) object_method_1_code (1 : Nat) (Option.none : Option Jvm.ClassFile.FieldType)).before args0 about1 = true := code_word (m := ⟨0, 0⟩) (meth := k0m0) (c := k0c0) (by decide +kernel) rfl rfl rfl (by decide +kernel)
set_option maxRecDepth 65536 in
theorem w_c6 : (Jvm.Cond.code ({ cls := "com/example/archive_packager/archivepackager/LocaleCharset", name := "lostBytes", desc := "(Ljava/lang/String;)Z" } : Jvm.MethodName) prog_3_method_6_code (1 : Nat) (Option.some Jvm.ClassFile.FieldType.boolean)).before args0 about1 = true := code_word (m := ⟨8, 1⟩) (meth := k8m1) (c := k8c1) (by decide +kernel) rfl rfl rfl (by decide +kernel)
set_option maxRecDepth 65536 in
theorem w_c7 : (Jvm.Cond.code ({ cls := "java/lang/String", name := "indexOf", desc := "(I)I" } : Jvm.MethodName) jdk_42_method_79_code (2 : Nat) (Option.some Jvm.ClassFile.FieldType.int)).before args0 about1 = true := code_word (m := ⟨7, 3⟩) (meth := k7m3) (c := k7c3) (by decide +kernel) rfl rfl rfl (by decide +kernel)
set_option maxRecDepth 65536 in
theorem w_c8 : (Jvm.Cond.code ({ cls := "java/lang/String", name := "indexOf", desc := "(II)I" } : Jvm.MethodName) jdk_42_method_80_code (3 : Nat) (Option.some Jvm.ClassFile.FieldType.int)).before args0 about1 = true := code_word (m := ⟨7, 4⟩) (meth := k7m4) (c := k7c4) (by decide +kernel) rfl rfl rfl (by decide +kernel)
set_option maxRecDepth 65536 in
theorem w_c9 : (Jvm.Cond.code ({ cls := "java/lang/String", name := "isLatin1", desc := "()Z" } : Jvm.MethodName) jdk_42_method_154_code (1 : Nat) (Option.some Jvm.ClassFile.FieldType.boolean)).before args0 about1 = true := code_word (m := ⟨7, 7⟩) (meth := k7m7) (c := k7c7) (by decide +kernel) rfl rfl rfl (by decide +kernel)
set_option maxRecDepth 65536 in
theorem w_c10 : (Jvm.Cond.code ({ cls := "java/lang/String", name := "length", desc := "()I" } : Jvm.MethodName) jdk_42_method_54_code (1 : Nat) (Option.some Jvm.ClassFile.FieldType.int)).before args0 about1 = true := code_word (m := ⟨7, 2⟩) (meth := k7m2) (c := k7c2) (by decide +kernel) rfl rfl rfl (by decide +kernel)
set_option maxRecDepth 65536 in
theorem w_c11 : (Jvm.Cond.code ({ cls := "java/lang/String", name := "coder", desc := "()B" } : Jvm.MethodName) jdk_42_method_152_code (1 : Nat) (Option.some Jvm.ClassFile.FieldType.byte)).before args0 about1 = true := code_word (m := ⟨7, 6⟩) (meth := k7m6) (c := k7c6) (by decide +kernel) rfl rfl rfl (by decide +kernel)
set_option maxRecDepth 65536 in
theorem w_c12 : (Jvm.Cond.code ({ cls := "java/lang/StringLatin1", name := "indexOf", desc := "([BIII)I" } : Jvm.MethodName) jdk_43_method_22_code (4 : Nat) (Option.some Jvm.ClassFile.FieldType.int)).before args0 about1 = true := code_word (m := ⟨9, 2⟩) (meth := k9m2) (c := k9c2) (by decide +kernel) rfl rfl rfl (by decide +kernel)
set_option maxRecDepth 65536 in
theorem w_c13 : (Jvm.Cond.code ({ cls := "java/lang/StringLatin1", name := "canEncode", desc := "(I)Z" } : Jvm.MethodName) jdk_43_method_4_code (1 : Nat) (Option.some Jvm.ClassFile.FieldType.boolean)).before args0 about1 = true := code_word (m := ⟨9, 1⟩) (meth := k9m1) (c := k9c1) (by decide +kernel) rfl rfl rfl (by decide +kernel)
set_option maxRecDepth 65536 in
theorem w_c14 : (Jvm.Cond.code ({ cls := "java/lang/StringUTF16", name := "compress", desc := "([CII)[B" } : Jvm.MethodName) jdk_52_method_16_code (6 : Nat) (Option.some (Jvm.ClassFile.FieldType.array Jvm.ClassFile.FieldType.byte))).before args0 about1 = true := code_word (m := ⟨10, 8⟩) (meth := k10m8) (c := k10c8) (by decide +kernel) rfl rfl rfl (by decide +kernel)
set_option maxRecDepth 65536 in
theorem w_c15 : (Jvm.Cond.code ({ cls := "java/lang/StringUTF16", name := "compress", desc := "([CI[BII)I" } : Jvm.MethodName) jdk_52_method_21_code (7 : Nat) (Option.some Jvm.ClassFile.FieldType.int)).before args0 about1 = true := code_word (m := ⟨10, 9⟩) (meth := k10m9) (c := k10c9) (by decide +kernel) rfl rfl rfl (by decide +kernel)
set_option maxRecDepth 65536 in
theorem w_c16 : (Jvm.Cond.code ({ cls := "java/lang/StringUTF16", name := "toBytes", desc := "([CII)[B" } : Jvm.MethodName) jdk_52_method_14_code (5 : Nat) (Option.some (Jvm.ClassFile.FieldType.array Jvm.ClassFile.FieldType.byte))).before args0 about1 = true := code_word (m := ⟨10, 6⟩) (meth := k10m6) (c := k10c6) (by decide +kernel) rfl rfl rfl (by decide +kernel)
set_option maxRecDepth 65536 in
theorem w_c17 : (Jvm.Cond.code ({ cls := "java/lang/StringUTF16", name := "newBytesFor", desc := "(I)[B" } : Jvm.MethodName) jdk_52_method_2_code (1 : Nat) (Option.some (Jvm.ClassFile.FieldType.array Jvm.ClassFile.FieldType.byte))).before args0 about1 = true := code_word (m := ⟨10, 1⟩) (meth := k10m1) (c := k10c1) (by decide +kernel) rfl rfl rfl (by decide +kernel)
set_option maxRecDepth 65536 in
theorem w_c18 : (Jvm.Cond.code ({ cls := "java/lang/StringUTF16", name := "newBytesLength", desc := "(I)I" } : Jvm.MethodName) jdk_52_method_3_code (1 : Nat) (Option.some Jvm.ClassFile.FieldType.int)).before args0 about1 = true := code_word (m := ⟨10, 2⟩) (meth := k10m2) (c := k10c2) (by decide +kernel) rfl rfl rfl (by decide +kernel)
set_option maxRecDepth 65536 in
theorem w_c19 : (Jvm.Cond.code ({ cls := "java/lang/StringUTF16", name := "putChar", desc := "([BII)V" } : Jvm.MethodName) jdk_52_method_4_code (3 : Nat) (Option.none : Option Jvm.ClassFile.FieldType)).before args0 about1 = true := code_word (m := ⟨10, 3⟩) (meth := k10m3) (c := k10c3) (by decide +kernel) rfl rfl rfl (by decide +kernel)
set_option maxRecDepth 65536 in
theorem w_c20 : (Jvm.Cond.code ({ cls := "java/lang/StringUTF16", name := "getChar", desc := "([BI)C" } : Jvm.MethodName) jdk_52_method_5_code (2 : Nat) (Option.some Jvm.ClassFile.FieldType.char)).before args0 about1 = true := code_word (m := ⟨10, 4⟩) (meth := k10m4) (c := k10c4) (by decide +kernel) rfl rfl rfl (by decide +kernel)
set_option maxRecDepth 65536 in
theorem w_c21 : (Jvm.Cond.code ({ cls := "java/lang/StringUTF16", name := "coderFromArrayLen", desc := "([BI)B" } : Jvm.MethodName) jdk_52_method_15_code (2 : Nat) (Option.some Jvm.ClassFile.FieldType.byte)).before args0 about1 = true := code_word (m := ⟨10, 7⟩) (meth := k10m7) (c := k10c7) (by decide +kernel) rfl rfl rfl (by decide +kernel)
set_option maxRecDepth 65536 in
theorem w_c22 : (Jvm.Cond.code ({ cls := "java/lang/StringUTF16", name := "indexOf", desc := "([BIII)I" } : Jvm.MethodName) jdk_52_method_40_code (4 : Nat) (Option.some Jvm.ClassFile.FieldType.int)).before args0 about1 = true := code_word (m := ⟨10, 10⟩) (meth := k10m10) (c := k10c10) (by decide +kernel) rfl rfl rfl (by decide +kernel)
set_option maxRecDepth 65536 in
theorem w_c23 : (Jvm.Cond.code ({ cls := "java/lang/Math", name := "max", desc := "(II)I" } : Jvm.MethodName) jdk_29_method_65_code (2 : Nat) (Option.some Jvm.ClassFile.FieldType.int)).before args0 about1 = true := code_word (m := ⟨11, 1⟩) (meth := k11m1) (c := k11c1) (by decide +kernel) rfl rfl rfl (by decide +kernel)
set_option maxRecDepth 65536 in
theorem w_c24 : (Jvm.Cond.code ({ cls := "java/lang/Math", name := "min", desc := "(II)I" } : Jvm.MethodName) jdk_29_method_69_code (2 : Nat) (Option.some Jvm.ClassFile.FieldType.int)).before args0 about1 = true := code_word (m := ⟨11, 2⟩) (meth := k11m2) (c := k11c2) (by decide +kernel) rfl rfl rfl (by decide +kernel)
set_option maxRecDepth 65536 in
theorem w_c25 : (Jvm.Cond.code ({ cls := "java/lang/StringUTF16", name := "indexOfChar", desc := "([BIII)I" } : Jvm.MethodName) jdk_52_method_47_code (4 : Nat) (Option.some Jvm.ClassFile.FieldType.int)).before args0 about1 = true := code_word (m := ⟨10, 11⟩) (meth := k10m11) (c := k10c11) (by decide +kernel) rfl rfl rfl (by decide +kernel)
set_option maxRecDepth 65536 in
theorem w_c26 : (Jvm.Cond.code ({ cls := "java/lang/StringUTF16", name := "checkBoundsBeginEnd", desc := "(II[B)V" } : Jvm.MethodName) jdk_52_method_93_code (3 : Nat) (Option.none : Option Jvm.ClassFile.FieldType)).before args0 about1 = true := code_word (m := ⟨10, 13⟩) (meth := k10m13) (c := k10c13) (by decide +kernel) rfl rfl rfl (by decide +kernel)
set_option maxRecDepth 65536 in
theorem w_c27 : (Jvm.Cond.code ({ cls := "java/lang/StringUTF16", name := "length", desc := "([B)I" } : Jvm.MethodName) jdk_52_method_6_code (1 : Nat) (Option.some Jvm.ClassFile.FieldType.int)).before args0 about1 = true := code_word (m := ⟨10, 5⟩) (meth := k10m5) (c := k10c5) (by decide +kernel) rfl rfl rfl (by decide +kernel)
set_option maxRecDepth 65536 in
theorem w_c28 : (Jvm.Cond.code ({ cls := "java/lang/String", name := "checkBoundsBeginEnd", desc := "(III)V" } : Jvm.MethodName) jdk_42_method_158_code (3 : Nat) (Option.none : Option Jvm.ClassFile.FieldType)).before args0 about1 = true := code_word (m := ⟨7, 8⟩) (meth := k7m8) (c := k7c8) (by decide +kernel) rfl rfl rfl (by decide +kernel)
set_option maxRecDepth 65536 in
theorem w_c29 : (Jvm.Cond.code ({ cls := "jdk/internal/util/Preconditions", name := "checkFromToIndex", desc := "(IIILjava/util/function/BiFunction;)I" } : Jvm.MethodName) jdk_41_method_12_code (4 : Nat) (Option.some Jvm.ClassFile.FieldType.int)).before args0 about1 = true := code_word (m := ⟨12, 1⟩) (meth := k12m1) (c := k12c1) (by decide +kernel) rfl rfl rfl (by decide +kernel)
set_option maxRecDepth 65536 in
theorem w_c30 : (Jvm.Cond.code ({ cls := "java/lang/StringUTF16", name := "indexOfCharUnsafe", desc := "([BIII)I" } : Jvm.MethodName) jdk_52_method_48_code (5 : Nat) (Option.some Jvm.ClassFile.FieldType.int)).before args0 about1 = true := code_word (m := ⟨10, 12⟩) (meth := k10m12) (c := k10c12) (by decide +kernel) rfl rfl rfl (by decide +kernel)
def codes1 : List Jvm.Cond := [Jvm.Cond.code x code maxLocals ret, Jvm.Cond.code ({ cls := "com/example/archive_packager/archivepackager/LocaleCharsetLostBytesPinLaw", name := "draw", desc := "(I)C" } : Jvm.MethodName) method_2_code (1 : Nat) (Option.some Jvm.ClassFile.FieldType.char), Jvm.Cond.code ({ cls := "com/example/archive_packager/archivepackager/LocaleCharsetLostBytesPinLaw", name := "build", desc := "(ICCCC)[C" } : Jvm.MethodName) method_3_code (5 : Nat) (Option.some (Jvm.ClassFile.FieldType.array Jvm.ClassFile.FieldType.char)), Jvm.Cond.code ({ cls := "java/lang/String", name := "<init>", desc := "([C)V" } : Jvm.MethodName) jdk_42_method_3_code (2 : Nat) (Option.none : Option Jvm.ClassFile.FieldType), Jvm.Cond.code ({ cls := "java/lang/String", name := "<init>", desc := "([CIILjava/lang/Void;)V" } : Jvm.MethodName) jdk_42_method_149_code (6 : Nat) (Option.none : Option Jvm.ClassFile.FieldType), Jvm.Cond.code ({ cls := "java/lang/Object", name := "<init>", desc := "()V" } : Jvm.MethodName) object_method_1_code (1 : Nat) (Option.none : Option Jvm.ClassFile.FieldType), Jvm.Cond.code ({ cls := "com/example/archive_packager/archivepackager/LocaleCharset", name := "lostBytes", desc := "(Ljava/lang/String;)Z" } : Jvm.MethodName) prog_3_method_6_code (1 : Nat) (Option.some Jvm.ClassFile.FieldType.boolean), Jvm.Cond.code ({ cls := "java/lang/String", name := "indexOf", desc := "(I)I" } : Jvm.MethodName) jdk_42_method_79_code (2 : Nat) (Option.some Jvm.ClassFile.FieldType.int), Jvm.Cond.code ({ cls := "java/lang/String", name := "indexOf", desc := "(II)I" } : Jvm.MethodName) jdk_42_method_80_code (3 : Nat) (Option.some Jvm.ClassFile.FieldType.int), Jvm.Cond.code ({ cls := "java/lang/String", name := "isLatin1", desc := "()Z" } : Jvm.MethodName) jdk_42_method_154_code (1 : Nat) (Option.some Jvm.ClassFile.FieldType.boolean), Jvm.Cond.code ({ cls := "java/lang/String", name := "length", desc := "()I" } : Jvm.MethodName) jdk_42_method_54_code (1 : Nat) (Option.some Jvm.ClassFile.FieldType.int), Jvm.Cond.code ({ cls := "java/lang/String", name := "coder", desc := "()B" } : Jvm.MethodName) jdk_42_method_152_code (1 : Nat) (Option.some Jvm.ClassFile.FieldType.byte), Jvm.Cond.code ({ cls := "java/lang/StringLatin1", name := "indexOf", desc := "([BIII)I" } : Jvm.MethodName) jdk_43_method_22_code (4 : Nat) (Option.some Jvm.ClassFile.FieldType.int), Jvm.Cond.code ({ cls := "java/lang/StringLatin1", name := "canEncode", desc := "(I)Z" } : Jvm.MethodName) jdk_43_method_4_code (1 : Nat) (Option.some Jvm.ClassFile.FieldType.boolean), Jvm.Cond.code ({ cls := "java/lang/StringUTF16", name := "compress", desc := "([CII)[B" } : Jvm.MethodName) jdk_52_method_16_code (6 : Nat) (Option.some (Jvm.ClassFile.FieldType.array Jvm.ClassFile.FieldType.byte)), Jvm.Cond.code ({ cls := "java/lang/StringUTF16", name := "compress", desc := "([CI[BII)I" } : Jvm.MethodName) jdk_52_method_21_code (7 : Nat) (Option.some Jvm.ClassFile.FieldType.int), Jvm.Cond.code ({ cls := "java/lang/StringUTF16", name := "toBytes", desc := "([CII)[B" } : Jvm.MethodName) jdk_52_method_14_code (5 : Nat) (Option.some (Jvm.ClassFile.FieldType.array Jvm.ClassFile.FieldType.byte)), Jvm.Cond.code ({ cls := "java/lang/StringUTF16", name := "newBytesFor", desc := "(I)[B" } : Jvm.MethodName) jdk_52_method_2_code (1 : Nat) (Option.some (Jvm.ClassFile.FieldType.array Jvm.ClassFile.FieldType.byte)), Jvm.Cond.code ({ cls := "java/lang/StringUTF16", name := "newBytesLength", desc := "(I)I" } : Jvm.MethodName) jdk_52_method_3_code (1 : Nat) (Option.some Jvm.ClassFile.FieldType.int), Jvm.Cond.code ({ cls := "java/lang/StringUTF16", name := "putChar", desc := "([BII)V" } : Jvm.MethodName) jdk_52_method_4_code (3 : Nat) (Option.none : Option Jvm.ClassFile.FieldType), Jvm.Cond.code ({ cls := "java/lang/StringUTF16", name := "getChar", desc := "([BI)C" } : Jvm.MethodName) jdk_52_method_5_code (2 : Nat) (Option.some Jvm.ClassFile.FieldType.char), Jvm.Cond.code ({ cls := "java/lang/StringUTF16", name := "coderFromArrayLen", desc := "([BI)B" } : Jvm.MethodName) jdk_52_method_15_code (2 : Nat) (Option.some Jvm.ClassFile.FieldType.byte), Jvm.Cond.code ({ cls := "java/lang/StringUTF16", name := "indexOf", desc := "([BIII)I" } : Jvm.MethodName) jdk_52_method_40_code (4 : Nat) (Option.some Jvm.ClassFile.FieldType.int), Jvm.Cond.code ({ cls := "java/lang/Math", name := "max", desc := "(II)I" } : Jvm.MethodName) jdk_29_method_65_code (2 : Nat) (Option.some Jvm.ClassFile.FieldType.int), Jvm.Cond.code ({ cls := "java/lang/Math", name := "min", desc := "(II)I" } : Jvm.MethodName) jdk_29_method_69_code (2 : Nat) (Option.some Jvm.ClassFile.FieldType.int), Jvm.Cond.code ({ cls := "java/lang/StringUTF16", name := "indexOfChar", desc := "([BIII)I" } : Jvm.MethodName) jdk_52_method_47_code (4 : Nat) (Option.some Jvm.ClassFile.FieldType.int), Jvm.Cond.code ({ cls := "java/lang/StringUTF16", name := "checkBoundsBeginEnd", desc := "(II[B)V" } : Jvm.MethodName) jdk_52_method_93_code (3 : Nat) (Option.none : Option Jvm.ClassFile.FieldType), Jvm.Cond.code ({ cls := "java/lang/StringUTF16", name := "length", desc := "([B)I" } : Jvm.MethodName) jdk_52_method_6_code (1 : Nat) (Option.some Jvm.ClassFile.FieldType.int), Jvm.Cond.code ({ cls := "java/lang/String", name := "checkBoundsBeginEnd", desc := "(III)V" } : Jvm.MethodName) jdk_42_method_158_code (3 : Nat) (Option.none : Option Jvm.ClassFile.FieldType), Jvm.Cond.code ({ cls := "jdk/internal/util/Preconditions", name := "checkFromToIndex", desc := "(IIILjava/util/function/BiFunction;)I" } : Jvm.MethodName) jdk_41_method_12_code (4 : Nat) (Option.some Jvm.ClassFile.FieldType.int), Jvm.Cond.code ({ cls := "java/lang/StringUTF16", name := "indexOfCharUnsafe", desc := "([BIII)I" } : Jvm.MethodName) jdk_52_method_48_code (5 : Nat) (Option.some Jvm.ClassFile.FieldType.int)]
set_option maxRecDepth 65536 in
theorem codes_eq : words1.filter isCode = codes1 := rfl
theorem w_codes : ∀ c ∈ words1.filter isCode, c.before args0 about1 = true := by
  rw [codes_eq]
  intro c hc
  simp only [codes1, List.mem_cons, List.not_mem_nil, or_false] at hc
  rcases hc with rfl | rfl | rfl | rfl | rfl | rfl | rfl | rfl | rfl | rfl | rfl | rfl | rfl | rfl | rfl | rfl | rfl | rfl | rfl | rfl | rfl | rfl | rfl | rfl | rfl | rfl | rfl | rfl | rfl | rfl | rfl
  · exact w_c0
  · exact w_c1
  · exact w_c2
  · exact w_c3
  · exact w_c4
  · exact w_c5
  · exact w_c6
  · exact w_c7
  · exact w_c8
  · exact w_c9
  · exact w_c10
  · exact w_c11
  · exact w_c12
  · exact w_c13
  · exact w_c14
  · exact w_c15
  · exact w_c16
  · exact w_c17
  · exact w_c18
  · exact w_c19
  · exact w_c20
  · exact w_c21
  · exact w_c22
  · exact w_c23
  · exact w_c24
  · exact w_c25
  · exact w_c26
  · exact w_c27
  · exact w_c28
  · exact w_c29
  · exact w_c30
set_option maxRecDepth 65536 in
theorem w_t1 : (words1.take 24).all (fun c => isCode c || c.before args0 about1) = true := by decide +kernel
set_option maxRecDepth 65536 in
theorem w_t2 : ((words1.drop 24).take 24).all (fun c => isCode c || c.before args0 about1) = true := by decide +kernel
set_option maxRecDepth 65536 in
theorem w_t3 : (((words1.drop 24).drop 24).take 24).all (fun c => isCode c || c.before args0 about1) = true := by decide +kernel
set_option maxRecDepth 65536 in
theorem w_t4 : ((((words1.drop 24).drop 24).drop 24).take 24).all (fun c => isCode c || c.before args0 about1) = true := by decide +kernel
set_option maxRecDepth 65536 in
theorem w_t5 : (((((words1.drop 24).drop 24).drop 24).drop 24).take 24).all (fun c => isCode c || c.before args0 about1) = true := by decide +kernel
set_option maxRecDepth 65536 in
theorem w_t6 : (((((words1.drop 24).drop 24).drop 24).drop 24).drop 24).all (fun c => isCode c || c.before args0 about1) = true := by decide +kernel
theorem w_tables : (allAtoms (Jvm.Cond.code x code maxLocals ret :: tables_1)).before args0 about1 = true := by
  rw [allAtoms_all]
  show words1.all (fun c => c.before args0 about1) = true
  refine all_split ?_ w_codes
  rw [← List.take_append_drop 24 words1, List.all_append, w_t1, ← List.take_append_drop 24 (words1.drop 24), List.all_append, w_t2, ← List.take_append_drop 24 ((words1.drop 24).drop 24), List.all_append, w_t3, ← List.take_append_drop 24 (((words1.drop 24).drop 24).drop 24), List.all_append, w_t4, ← List.take_append_drop 24 ((((words1.drop 24).drop 24).drop 24).drop 24), List.all_append, w_t5, w_t6]
  rfl
set_option maxRecDepth 65536 in
theorem w_rest : rest_1_c.before args0 about1 = true := by decide +kernel
set_option maxRecDepth 65536 in
theorem w_case : (Jvm.Cond.and given_1 narrow_1).before args0 about1 = true := by decide +kernel
set_option maxRecDepth 65536 in
theorem w_consts : constsHeld consts_1 about1 := Jvm.Lit.constsHeldB_iff.mp (by decide +kernel)
theorem w_applies : (headSpec (Jvm.Cond.code x code maxLocals ret :: tables_1) room_1).applies x e0.platform about1 = true :=
  (Spec.applies_iff w_frames).mpr ⟨w_running, w_runnable, w_alone, w_named, w_hears, w_ripe, w_room, w_tables⟩
theorem atStart : AtStart classFile x code maxLocals ret World_1 tables_1 room_1 Calls_1 rest_1 Pre_1 launch0 p0 e0 about1 theMethod args0 below0 :=
  ⟨lists_1, trivial, launch0.admits_env _ _ _, launch0.least_env, fairChoices_fair.cas, fairChoices_fair.clock, w_frames, w_args, w_heap, w_applies, ⟨w_consts, trivial⟩, w_rest, w_case⟩
end start1
theorem witness_1 : WitnessClaimed_1 := ⟨start1.p0, start1.e0, start1.about1, start1.theMethod, start1.args0, start1.below0, start1.atStart⟩
end Jvm.Pilot.@@N@@
