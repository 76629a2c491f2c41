import JvmDerived
import JvmDerived.Pilot.@@N@@Statement
import JvmDerived.Pilot.@@N@@Code
set_option linter.unusedVariables false
set_option linter.unusedSimpArgs false
namespace Jvm.Own
open Jvm Sem ClassFile Op Lib Jvm.Free Jvm.Stand Jvm.LawKit Jvm.RoadKit Bundle
/-! The walker's core: a walk's goal as 'Run', where it stands as 'Pos', a callee as 'Con'; one law a step, the rest of the walk handed in last. -/
abbrev fr (m : MethodId) (pc : Nat) (L : List Slot) (S : List Value) : JFrame := mkF m pc ⟨L⟩ S
abbrev c16 (x : Int32) : Int32 := x.toUInt32.toUInt16.toUInt32.toInt32
def Run (tb : Tables) (e : Env) (below : List Frame) (F : State → Outcome → Prop) (T : State) (g : JFrame) : Prop := ∃ t o, Steps tb e below (T.setTop g) t ∧ F t o
section Basics
variable {tb : Tables} {e : Env} {below : List Frame} {F : State → Outcome → Prop} {T T' : State} {g g' : JFrame}
theorem Run.go (st : ∀ target, Steps tb e below (T'.setTop g') target → Steps tb e below (T.setTop g) target) (r : Run tb e below F T' g') : Run tb e below F T g := by
  obtain ⟨t, o, h1, h2⟩ := r; exact ⟨t, o, st _ h1, h2⟩
theorem Run.after (st : Steps tb e below (T.setTop g) (T'.setTop g')) (r : Run tb e below F T' g') : Run tb e below F T g := by
  obtain ⟨t, o, h1, h2⟩ := r; exact ⟨t, o, st.trans h1, h2⟩
theorem Run.cast (q : g = g') (r : Run tb e below F T g') : Run tb e below F T g := q ▸ r
end Basics
/-! ### plain instructions, many at once -/
def lget : List Slot → Nat → Option Slot
  | [], _ => none
  | a :: _, 0 => some a
  | _ :: r, n + 1 => lget r n
def lset : List Slot → Nat → Slot → List Slot
  | [], _, _ => []
  | _ :: r, 0, x => x :: r
  | a :: r, n + 1, x => a :: lset r n x
theorem lget_eq : ∀ (L : List Slot) (i : Nat), (⟨L⟩ : Array Slot)[i]? = lget L i
  | [], _ => rfl
  | _ :: _, 0 => rfl
  | _ :: r, n + 1 => by
    have := lget_eq r n
    simp only [List.getElem?_toArray] at this ⊢
    simpa [lget] using this
theorem lset_eq : ∀ (L : List Slot) (i : Nat) (x : Slot), (⟨L⟩ : Array Slot).setIfInBounds i x = ⟨lset L i x⟩
  | [], _, _ => by simp [lset]
  | _ :: _, 0, _ => by simp [lset]
  | _ :: r, n + 1, x => by
    have := lset_eq r n x
    simp only [List.setIfInBounds_toArray, List.set_cons_succ, lset] at this ⊢
    have h2 : r.set n x = lset r n x := by injection this
    rw [h2]
theorem lset_len : ∀ (L : List Slot) (i : Nat) (x : Slot), (lset L i x).length = L.length
  | [], _, _ => rfl
  | _ :: _, 0, _ => rfl
  | _ :: r, n + 1, x => by simp [lset, lset_len r n x]
def one (o : Option Slot) : Bool := match o with
  | some .unset => true
  | some (.val (.int _)) => true
  | some (.val (.ref _)) => true
  | some (.val .null) => true
  | _ => false
def ldI (o : Option Slot) (L : List Slot) (S : List Value) : Option (List Slot × List Value) := match o with
  | some (.val (.int v)) => some (L, .int v :: S)
  | _ => none
def ldJ (o : Option Slot) (L : List Slot) (S : List Value) : Option (List Slot × List Value) := match o with
  | some (.val (.long v)) => some (L, .long v :: S)
  | _ => none
def ldA (o : Option Slot) (L : List Slot) (S : List Value) : Option (List Slot × List Value) := match o with
  | some (.val (.ref v)) => some (L, .ref v :: S)
  | some (.val .null) => some (L, .null :: S)
  | _ => none
def op2 (f : Int32 → Int32 → Int32) (L : List Slot) (S : List Value) : Option (List Slot × List Value) := match S with
  | .int y :: .int x :: S => some (L, .int (f x y) :: S)
  | _ => none
def op1 (f : Int32 → Int32) (L : List Slot) (S : List Value) : Option (List Slot × List Value) := match S with
  | .int x :: S => some (L, .int (f x) :: S)
  | _ => none
def opJ (f : Int64 → Int64 → Int64) (L : List Slot) (S : List Value) : Option (List Slot × List Value) := match S with
  | .long y :: .long x :: S => some (L, .long (f x y) :: S)
  | _ => none
def opJI (f : Int64 → Int32 → Int64) (L : List Slot) (S : List Value) : Option (List Slot × List Value) := match S with
  | .int y :: .long x :: S => some (L, .long (f x y) :: S)
  | _ => none
def opJ1 (f : Int64 → Int32) (L : List Slot) (S : List Value) : Option (List Slot × List Value) := match S with
  | .long x :: S => some (L, .int (f x) :: S)
  | _ => none
def dupS (L : List Slot) (S : List Value) : Option (List Slot × List Value) := match S with
  | .int x :: S => some (L, .int x :: .int x :: S)
  | .ref x :: S => some (L, .ref x :: .ref x :: S)
  | .null :: S => some (L, .null :: .null :: S)
  | _ => none
def popS (L : List Slot) (S : List Value) : Option (List Slot × List Value) := match S with
  | .int _ :: S => some (L, S)
  | .ref _ :: S => some (L, S)
  | .null :: S => some (L, S)
  | _ => none
def stI (k : Nat) (L : List Slot) (S : List Value) : Option (List Slot × List Value) := match S with
  | .int x :: S => if one (lget L k) then some (lset L k (.val (.int x)), S) else none
  | _ => none
def stA (k : Nat) (L : List Slot) (S : List Value) : Option (List Slot × List Value) := match S with
  | .ref x :: S => if one (lget L k) then some (lset L k (.val (.ref x)), S) else none
  | .null :: S => if one (lget L k) then some (lset L k (.val .null), S) else none
  | _ => none
def stJ (k : Nat) (L : List Slot) (S : List Value) : Option (List Slot × List Value) := match S with
  | .long x :: S => if one (lget L k) && one (lget L (k + 1)) then some (lset (lset L k (.val (.long x))) (k + 1) .second, S) else none
  | _ => none
def inc (k : Nat) (c : Int) (L : List Slot) (S : List Value) : Option (List Slot × List Value) := match lget L k with
  | some (.val (.int x)) => some (lset L k (.val (.int (x + Int32.ofInt c))), S)
  | _ => none
/-- what a plain instruction makes of the locals and the stack -/
def pst (i : Instr) (L : List Slot) (S : List Value) : Option (List Slot × List Value) := match i with
  | .iload_n k => ldI (lget L k.val) L S
  | .iload k => ldI (lget L k) L S
  | .lload_n k => ldJ (lget L k.val) L S
  | .lload k => ldJ (lget L k) L S
  | .aload_n k => ldA (lget L k.val) L S
  | .aload k => ldA (lget L k) L S
  | .iconst i => some (L, .int (Int32.ofInt i) :: S)
  | .bipush i => some (L, .int (Int8.ofInt i).toInt32 :: S)
  | .sipush i => some (L, .int (Int16.ofInt i).toInt32 :: S)
  | .aconst_null => some (L, .null :: S)
  | .dup => dupS L S
  | .pop => popS L S
  | .iadd => op2 (· + ·) L S
  | .isub => op2 (· - ·) L S
  | .iand => op2 (· &&& ·) L S
  | .ior => op2 (· ||| ·) L S
  | .ishl => op2 (fun x y => x <<< (y &&& 31)) L S
  | .ishr => op2 (fun x y => x >>> (y &&& 31)) L S
  | .iushr => op2 XT.ushr L S
  | .i2c => op1 c16 L S
  | .i2b => op1 (fun x => x.toInt8.toInt32) L S
  | .l2i => opJ1 (fun x => x.toInt32) L S
  | .land => opJ (· &&& ·) L S
  | .lushr => opJI XT.ushrL L S
  | .istore k => stI k L S
  | .istore_n k => stI k.val L S
  | .astore k => stA k L S
  | .astore_n k => stA k.val L S
  | .lstore k => stJ k L S
  | .lstore_n k => stJ k.val L S
  | .iinc k c => inc k c L S
  | _ => none
def plen (i : Instr) : Nat := match i with
  | .iload _ => 2
  | .lload _ => 2
  | .aload _ => 2
  | .istore _ => 2
  | .lstore _ => 2
  | .astore _ => 2
  | .bipush _ => 2
  | .sipush _ => 3
  | .iinc _ _ => 3
  | _ => 1
def prun : List Instr → Nat → List Slot → List Value → Option (Nat × List Slot × List Value)
  | [], pc, L, S => some (pc, L, S)
  | i :: r, pc, L, S => match pst i L S with
    | some (L', S') => prun r (pc + plen i) L' S'
    | none => none
def decs (b : ByteArray) : Nat → List Instr → Bool
  | _, [] => true
  | pc, i :: r => decide (decode b pc = .ok (i, plen i)) && decs b (pc + plen i) r
section Plain
variable {tb : Tables} [Ours tb] {e : Env} {below : List Frame} {T target : State} {m : MethodId} {c : Code} {pc : Nat} {L L' : List Slot} {S S' : List Value}
theorem one_spec {l : List Slot} {k : Nat} (h : one (lget l k) = true) : ∃ o, (⟨l⟩ : Array Slot)[k]? = some o ∧ (o = .unset ∨ ∃ w, o = .val w ∧ w.category = 1) := by
  rw [lget_eq]
  cases hq : lget l k with
  | none => rw [hq] at h; cases h
  | some o =>
    rw [hq] at h
    refine ⟨o, rfl, ?_⟩
    cases o with
    | unset => exact Or.inl rfl
    | second => cases h
    | val w => cases w <;> first | exact Or.inr ⟨_, rfl, rfl⟩ | cases h
theorem one_store {l : List Slot} {k : Nat} {v : Value} (h : one (lget l k) = true) (hv : v.category = 1) : storeLocals ⟨l⟩ k v = some ⟨lset l k (.val v)⟩ := by
  obtain ⟨o, h1, h2⟩ := one_spec h
  rw [XS.store1 h1 h2 hv, lset_eq]
theorem lget_lset_ne : ∀ (l : List Slot) (i j : Nat) (x : Slot), i ≠ j → lget (lset l i x) j = lget l j
  | [], _, _, _, _ => rfl
  | _ :: _, 0, 0, _, h => absurd rfl h
  | _ :: _, 0, _ + 1, _, _ => rfl
  | _ :: _, _ + 1, 0, _, _ => rfl
  | _ :: r, i + 1, j + 1, x, h => lget_lset_ne r i j x (by omega)
theorem two_store {l : List Slot} {k : Nat} {x : Int64} (h : one (lget l k) = true) (h' : one (lget l (k + 1)) = true) : storeLocals ⟨l⟩ k (.long x) = some ⟨lset (lset l k (.val (.long x))) (k + 1) .second⟩ := by
  obtain ⟨o, h1, h2⟩ := one_spec h
  obtain ⟨o', g1, g2⟩ := one_spec h'
  have hk : k < l.length := by have := (Array.getElem?_eq_some_iff.mp h1).1; simpa using this
  have hk' : k + 1 < l.length := by have := (Array.getElem?_eq_some_iff.mp g1).1; simpa using this
  have g3 : (⟨lset l k (.val (.long x))⟩ : Array Slot)[k + 1]? = some o' := by rw [lget_eq, lget_lset_ne _ _ _ _ (by omega), ← lget_eq]; exact g1
  have s1 : setAt ⟨l⟩ k (.val (.long x)) = some ⟨lset l k (.val (.long x))⟩ := by unfold setAt; rw [if_pos (by simpa using hk), lset_eq]
  have s2 : setAt ⟨lset l k (.val (.long x))⟩ (k + 1) .second = some ⟨lset (lset l k (.val (.long x))) (k + 1) .second⟩ := by unfold setAt; rw [if_pos (by simpa [lset_len] using hk'), lset_eq]
  have s3 : storeSelf ⟨l⟩ k (.long x) = some ⟨lset (lset l k (.val (.long x))) (k + 1) .second⟩ := by
    unfold storeSelf
    simp only [s1, Option.bind_eq_bind, Option.bind_some, show (Value.long x).category = 2 from rfl, if_true, g3]
    rcases g2 with rfl | ⟨w, rfl, hw⟩
    · exact s2
    · simp only [hw, show ¬ (1 : Nat) = 2 by decide, if_false]; exact s2
  unfold storeLocals
  simp only [h1, Option.bind_eq_bind, Option.bind_some]
  rcases h2 with rfl | ⟨w, rfl, hw⟩
  · exact s3
  · simp only [hw, show ¬ (1 : Nat) = 2 by decide, if_false]; exact s3
theorem pst_ok {i : Instr} (h : At T m c below) (hx : tb.exec = Jvm.exec) (hd : decode c.code pc = .ok (i, plen i)) (hp : pst i L S = some (L', S'))
    (r : Steps tb e below (T.setTop (fr m (pc + plen i) L' S')) target) : Steps tb e below (T.setTop (fr m pc L S)) target := by
  unfold pst at hp
  split at hp
  case h_1 k => unfold ldI at hp; split at hp <;> cases hp; rename_i q; exact XS.iloadN h hx rfl hd ((lget_eq _ _).trans q) r
  case h_2 k => unfold ldI at hp; split at hp <;> cases hp; rename_i q; exact XS.iload h hx rfl hd ((lget_eq _ _).trans q) r
  case h_3 k => unfold ldJ at hp; split at hp <;> cases hp; rename_i q; exact XT.lloadN h hx rfl hd ((lget_eq _ _).trans q) r
  case h_4 k => unfold ldJ at hp; split at hp <;> cases hp; rename_i q; exact XT.lload h hx rfl hd ((lget_eq _ _).trans q) r
  case h_5 k => unfold ldA at hp; split at hp <;> cases hp <;> (rename_i q; exact XS.aloadN h hx rfl hd ((lget_eq _ _).trans q) rfl r)
  case h_6 k => unfold ldA at hp; split at hp <;> cases hp <;> (rename_i q; exact XS.aload h hx rfl hd ((lget_eq _ _).trans q) rfl r)
  case h_7 i => cases hp; exact XS.iconst h hx rfl hd r
  case h_8 i => cases hp; exact XS.bipush h hx rfl hd r
  case h_9 i => cases hp; exact XS.sipush h hx rfl hd r
  case h_10 => cases hp; exact XS.aconstNull h hx rfl hd r
  case h_11 => unfold dupS at hp; split at hp <;> cases hp <;> exact XS.dup h hx rfl hd rfl rfl r
  case h_12 => unfold popS at hp; split at hp <;> cases hp <;> exact XT.pop h hx rfl hd rfl rfl r
  case h_13 => unfold op2 at hp; split at hp <;> cases hp; exact XS.iadd h hx rfl hd rfl r
  case h_14 => unfold op2 at hp; split at hp <;> cases hp; exact XS.isub h hx rfl hd rfl r
  case h_15 => unfold op2 at hp; split at hp <;> cases hp; exact XS.iand h hx rfl hd rfl r
  case h_16 => unfold op2 at hp; split at hp <;> cases hp; exact XT.ior h hx rfl hd rfl r
  case h_17 => unfold op2 at hp; split at hp <;> cases hp; exact XT.ishl h hx rfl hd rfl r
  case h_18 => unfold op2 at hp; split at hp <;> cases hp; exact XT.ishr h hx rfl hd rfl r
  case h_19 => unfold op2 at hp; split at hp <;> cases hp; exact XT.iushr h hx rfl hd rfl r
  case h_20 => unfold op1 at hp; split at hp <;> cases hp; exact XT.i2c h hx rfl hd rfl r
  case h_21 => unfold op1 at hp; split at hp <;> cases hp; exact XT.i2b h hx rfl hd rfl r
  case h_22 => unfold opJ1 at hp; split at hp <;> cases hp; exact XT.l2i h hx rfl hd rfl r
  case h_23 => unfold opJ at hp; split at hp <;> cases hp; exact XT.land h hx rfl hd rfl r
  case h_24 => unfold opJI at hp; split at hp <;> cases hp; exact XT.lushr h hx rfl hd rfl r
  case h_25 k => unfold stI at hp; split at hp <;> first | cases hp | (split at hp <;> cases hp; rename_i q; exact XS.istore h hx rfl hd rfl (one_store q rfl) r)
  case h_26 k => unfold stI at hp; split at hp <;> first | cases hp | (split at hp <;> cases hp; rename_i q; exact XS.istoreN h hx rfl hd rfl (one_store q rfl) r)
  case h_27 k => unfold stA at hp; split at hp <;> first | cases hp | (split at hp <;> cases hp; rename_i q; exact XS.astore h hx rfl hd rfl rfl (one_store q rfl) r)
  case h_28 k => unfold stA at hp; split at hp <;> first | cases hp | (split at hp <;> cases hp; rename_i q; exact XS.astoreN h hx rfl hd rfl rfl (one_store q rfl) r)
  case h_29 k => unfold stJ at hp; split at hp <;> first | cases hp | (split at hp <;> cases hp; rename_i q; exact XT.lstore h hx rfl hd rfl (two_store (Bool.and_eq_true_iff.mp q).1 (Bool.and_eq_true_iff.mp q).2) r)
  case h_30 k => unfold stJ at hp; split at hp <;> first | cases hp | (split at hp <;> cases hp; rename_i q; exact XT.lstoreN h hx rfl hd rfl (two_store (Bool.and_eq_true_iff.mp q).1 (Bool.and_eq_true_iff.mp q).2) r)
  case h_31 k cc => unfold inc at hp; split at hp <;> cases hp; rename_i q; exact XS.iinc h hx rfl hd ((lget_eq _ _).trans q) (one_store (by rw [q]; rfl) rfl) r
  case h_32 => cases hp
theorem prun_ok (h : At T m c below) (hx : tb.exec = Jvm.exec) : ∀ (is : List Instr) {pc pc' : Nat} {L L' : List Slot} {S S' : List Value}, decs c.code pc is = true → prun is pc L S = some (pc', L', S') →
    Steps tb e below (T.setTop (fr m pc' L' S')) target → Steps tb e below (T.setTop (fr m pc L S)) target
  | [], _, _, _, _, _, _, _, hp, r => by cases hp; exact r
  | i :: is, pc, pc', L, L', S, S', hd, hp, r => by
    simp only [decs, Bool.and_eq_true, decide_eq_true_eq] at hd
    unfold prun at hp
    split at hp
    · rename_i L1 S1 q
      exact pst_ok h hx hd.1 q (prun_ok h hx is hd.2 hp r)
    · cases hp
end Plain
end Jvm.Own
namespace Jvm.Own
open Jvm Sem ClassFile Op Lib Jvm.Free Jvm.Stand Jvm.LawKit Jvm.RoadKit Bundle
/-- what stays as it is while a body is walked -/
def Ctx (Z : State) (a0 : Array Value) (EL : List (String × Nat)) (p : Program) (s : State) (m : MethodId) (meth : Method) (c : Code) (own name : String) (bytes : ByteArray) (maxL : Nat) (ret : Option FieldType) : Prop :=
  p.tables.exec = Jvm.exec ∧ Z.Warmed39 s.vm ∧ s.vm.findClass own = some m.cls ∧ c.code = bytes ∧ c.maxLocals = maxL ∧ meth.sig.returnType = ret ∧ meth.name = name ∧ meth.locks = false ∧ EW Z a0 EL
/-- where a walk stands: its heap is h; all that it has written is new since Z -/
def Pos (Z : State) (EL : List (String × Nat)) (n0 : Nat) (p : Program) (l : Launch) (e : Env) (R : Room) (s : State) (m : MethodId) (args : Array Value) (below : List Frame) (meth : Method) (c : Code) (T : State) (h : Heap) (k n : Nat) : Prop :=
  ∃ (vm0 : Vm) (k0 : Nat) (locs : List Loc), Stand p l e R (s.setVm vm0) m args below meth c T locs k n ∧ T.heap = h ∧ s.Since vm0 k0 ∧ k0 ≤ h.size ∧ CHr Z EL s.vm s.heap vm0 h ∧ Fr n0 locs ∧ Old Z n0 h
/-- how a body's run ends -/
def Ends (Z : State) (EL : List (String × Nat)) (n0 : Nat) (rm : Room) (below : List Frame) (Q : Option Value → Heap → Prop) (s : State) (t : State) (o : Outcome) : Prop :=
  t.status = .running ∧ Ended t below o ∧ ∃ v L, o = .returned v ∧ (Q v t.heap ∧ Fr n0 L ∧ Old Z n0 t.heap) ∧ CHr Z EL s.vm s.heap t.vm t.heap ∧ ReturnedEndW s o t L rm.cells rm.slots
/-- a callee's contract -/
def Con (l : Launch) (Z : State) (EL : List (String × Nat)) (n0 : Nat) (ws : List Jvm.Cond) (y : MethodName) (bytes : ByteArray) (maxL : Nat) (ret : Option FieldType) (rm : Room) (as' : Array Value) (h : Heap) (Q : Option Value → Heap → Prop) : Prop :=
  MetFree l y (head1 (Jvm.Cond.code y bytes maxL ret :: ws) rm) (fun a U => a = as' ∧ Z.Warmed39 U.vm ∧ U.heap = h ∧ CHv Z EL U.vm h) (fun _ _ _ _ _ => True)
    (fun _ U o U' => ∃ v L, o = .returned v ∧ (Q v U'.heap ∧ Fr n0 L ∧ Old Z n0 U'.heap) ∧ CHr Z EL U.vm U.heap U'.vm U'.heap ∧ ReturnedEndW U o U' L rm.cells rm.slots)
def Ret1 (Q : Value → Heap → Prop) (v : Option Value) (h : Heap) : Prop := ∃ w, v = some w ∧ Q w h
def Ret0 (Q : Heap → Prop) (v : Option Value) (h : Heap) : Prop := v = none ∧ Q h
theorem exR (h : Heap) : Ext h h := ⟨Nat.le_refl _, fun _ _ q => q⟩
theorem exT {h0 h h' : Heap} (E : Ext h0 h) (E' : Ext h h') : Ext h0 h' := ⟨Nat.le_trans E.1 E'.1, fun a c q => E'.2 a c (E.2 a c q)⟩
theorem exK {h0 h h' : Heap} {a : Addr} (E : Ext h0 h) (K : Keep h h' [a]) (q : h0.size ≤ a) : Ext h0 h' := ⟨Nat.le_trans E.1 K.1, fun x c r => K.2.1 x c (E.2 x c r) fun z => by
  cases List.mem_singleton.mp z
  exact absurd (Array.getElem?_eq_some_iff.mp r).1 (Nat.not_lt.mpr q)⟩
theorem exK0 {h0 h h' : Heap} (E : Ext h0 h) (K : Keep h h' []) : Ext h0 h' := ⟨Nat.le_trans E.1 K.1, fun x c r => K.2.1 x c (E.2 x c r) fun z => by cases z⟩
/-- an object under construction -/
def Blk (Z : State) (a0 : Array Value) (n0 : Nat) (h : Heap) (a : Addr) (C : String) : Prop := n0 ≤ a ∧ Exa Z h a C ∧ ∀ {O nm d : String} {ty : FieldType}, Laid Z a0 C O nm d → parseFieldDescriptor d = some ty → Fld Z h a O nm d (defaultValue ty)
theorem Blk.ext {Z : State} {a0 : Array Value} {n0 : Nat} {h h' : Heap} {a : Addr} {C : String} (B : Blk Z a0 n0 h a C) (E : Ext h h') : Blk Z a0 n0 h' a C := ⟨B.1, B.2.1.ext E, fun L q => (B.2.2 L q).ext E⟩
theorem Blk.keep {Z : State} {a0 : Array Value} {n0 : Nat} {h h' : Heap} {a : Addr} {C : String} {ws : List Addr} (B : Blk Z a0 n0 h a C) (K : Keep h h' ws) (q : a ∉ ws) : Blk Z a0 n0 h' a C := ⟨B.1, B.2.1.keep K, fun L r => (B.2.2 L r).keep K q⟩
/-- a char[] made by the walk -/
def Chs (Z : State) (n0 : Nat) (h : Heap) (b : Addr) (vs : List Int32) : Prop := n0 ≤ b ∧ vs.length ≤ 4000 ∧ ∃ k, Arv Z h b k .char (Int32.ofNat vs.length) (vs.map Value.int) (.int 0)
theorem Chs.ext {Z : State} {n0 : Nat} {h h' : Heap} {b : Addr} {vs : List Int32} (B : Chs Z n0 h b vs) (E : Ext h h') : Chs Z n0 h' b vs := by obtain ⟨h1, h2, k, h3⟩ := B; exact ⟨h1, h2, k, h3.ext E⟩
abbrev sST : String := "java/lang/String"
/-- a String that spells cs, each 0 to 255 -/
def Str (Z : State) (h : Heap) (a : Addr) (cs : List Int32) : Prop := cs.length ≤ 4000 ∧ (∀ c ∈ cs, ¬ c < 0 ∧ ¬ (255 : Int32) < c) ∧ Exa Z h a sST ∧ Fld Z h a sST "coder" "B" (.int 0) ∧
  ∃ t k, Fld Z h a sST "value" "[B" (.ref t) ∧ Arv Z h t k .byte (Int32.ofNat cs.length) ((cs.map fun c => c.toInt8.toInt32).map Value.int) (.int 0)
section StrF
variable {Z : State} {a0 : Array Value} {n0 : Nat} {h h' : Heap} {a b : Addr} {cs : List Int32} {C : String} {n : Nat}
theorem Str.exa (S : Str Z h a cs) : Exa Z h a sST := S.2.2.1
theorem Str.ext (S : Str Z h a cs) (E : Ext h h') : Str Z h' a cs := by obtain ⟨h1, h2, h3, h4, t, k, h5, h6⟩ := S; exact ⟨h1, h2, h3.ext E, h4.ext E, t, k, h5.ext E, h6.ext E⟩
theorem Str.keep (S : Str Z h b cs) (K : Keep h h' [a]) (B : Exa Z h a C) (hne : b ≠ a) (wi : (Jvm.Cond.instantiable C n).before a0 Z = true) : Str Z h' b cs := by
  obtain ⟨h1, h2, h3, h4, t, k, h5, h6⟩ := S
  exact ⟨h1, h2, h3.keep K, h4.keep K (ninS hne nin0), t, k, h5.keep K (ninS hne nin0), h6.keep K (ninS (B.neArv h6 wi).symm nin0)⟩
theorem Str.keepO (S : Str Z h b cs) (K : Keep h h' [a]) (B : Exa Z h a C) (hC : C ≠ sST) (wi : (Jvm.Cond.instantiable C n).before a0 Z = true) : Str Z h' b cs := S.keep K B (ne_exa S.exa B hC.symm) wi
theorem Str.keepS (S : Str Z h b cs) (K : Keep h h' [a]) (B : Blk Z a0 n0 h a sST) (wl : (Jvm.Cond.laysFinal sST sST "value" "[B").before a0 Z = true) (wi : (Jvm.Cond.instantiable sST n).before a0 Z = true) : Str Z h' b cs := by
  have hv : Fld Z h a sST "value" "[B" .null := B.2.2 (Or.inr wl) (ty := .array .byte) (by decide)
  obtain ⟨t, k, h5, -⟩ := S.2.2.2.2
  exact S.keep K B.2.1 (Fld.ne h5 hv (by simp)) wi
end StrF
theorem safe_blank {Z : State} {EL : List (String × Nat)} {vm : Vm} {h : Heap} {x : Addr} (hal : Z.vm.Alike vm) (E : Exa Z h x sST) (V : Fld Z h x sST "value" "[B" .null) : Safe Z EL vm h x := fun B => by
  obtain ⟨cell, kc, e1, e2, -⟩ := E
  obtain ⟨p, -, u, a, -, q, -, F, rfl | rfl⟩ := B
  · have f1 := F.ha
    obtain ⟨cS, ⟨⟨s1, s2, s3, ⟨cv, kv, iv, s4, s4'⟩, s5, s6, s7, s8, -⟩, -, -⟩, -⟩ := F
    obtain ⟨kv', z4⟩ := ff_back (U := Wst Z vm h) hal s4
    obtain ⟨cell', cf, k, i, f, v1, v2, -, -, -, -, v7⟩ := V
    cases (show h[q.sa]? = some q.sC from f1).symm.trans v1
    cases v2.symm.trans z4
    rw [s8] at v7; cases v7
  · have f2 := F.hd
    obtain ⟨cS, -, -, f, -⟩ := F
    cases (show h[q.sd]? = some q.SA from f2).symm.trans e1
    have f' : Z.vm.findClass "[B" = some q.SA.cls := by rw [← hal.findClass]; exact f
    obtain ⟨k1, q1, q2⟩ := Vm.findClass_spec f'
    obtain ⟨k2, q3, q4⟩ := Vm.findClass_spec e2
    cases q1.symm.trans q3
    have : "[B" = "java/lang/String" := q2.symm.trans q4
    exact absurd this (by decide)
section Walk
variable {Z : State} {a0 : Array Value} {EL : List (String × Nat)} {n0 : Nat} {p : Program} {l : Launch} {e : Env} {R : Room} {s : State} {m : MethodId} {args : Array Value} {below : List Frame} {meth : Method} {c : Code} {own name : String} {bytes : ByteArray} {maxL : Nat} {ret : Option FieldType}
  {F : State → Outcome → Prop} {T : State} {h : Heap} {k n : Nat} {pc pc' : Nat} {L L' : List Slot} {S S' : List Value} {Q : Option Value → Heap → Prop}
theorem Con.intro {ws : List Jvm.Cond} {y : MethodName} (hpl : plainFor y = true) (hO : Old Z n0 h) (hEL : EW Z a0 EL)
    (body : ∀ (p : Program) (e : Env) (s : State) (m : MethodId) (below : List Frame) (meth : Method) (c : Code) (T : State), Ctx Z a0 EL p s m meth c y.cls y.name bytes maxL ret → s.heap = h → Pos Z EL n0 p l e R s m args below meth c T h 0 0 → Run p.tables e below (Ends Z EL n0 R below Q s) T (entryFrame m args maxL)) :
    Con l Z EL n0 ws y bytes maxL ret R args h Q := by
  refine MetFree.of_bodySF hpl hisR ?_
  intro p e s m args' below meth c s₁ Bd hml hP _
  obtain ⟨rfl, hZ, hh, hC⟩ := hP
  have hown : s.vm.findClass y.cls = some m.cls := findClass_of_methodNamed Bd.named
  have hnm := (name_of_methodNamed Bd.named Bd.method).1
  have X0 : Stand p l e R s m args' below meth c s₁ [] 0 0 := Stand.of_body Bd
  have e0 : s₁.heap = h := by rw [← hh, Bd.state]; rfl
  have CR : CHr Z EL s.vm s.heap s.vm h := by rw [hh]; exact CHr.refl hC
  exact body p e s m below meth c s₁ ⟨Bd.exec, hZ, hown, Bd.bytes, hml, Bd.returns, hnm, Bd.notSynchronized, hEL⟩ hh ⟨s.vm, 0, [], X0, e0, (State.WarmedH.refl s).since 0, Nat.zero_le _, CR, Fr.nil n0, hO⟩
theorem Pos.opened (C : Ctx Z a0 EL p s m meth c own name bytes maxL ret) (P : Pos Z EL n0 p l e R s m args below meth c T h k n) :
    ∃ (vm0 : Vm) (k0 : Nat) (locs : List Loc), Stand p l e R (s.setVm vm0) m args below meth c T locs k n ∧ T.heap = h ∧ s.Since vm0 k0 ∧ k0 ≤ h.size ∧ CHr Z EL s.vm s.heap vm0 h ∧ Fr n0 locs ∧ Old Z n0 h ∧ Z.Warmed39 (s.setVm vm0).vm ∧ (s.setVm vm0).vm.findClass own = some m.cls := by
  obtain ⟨vm0, k0, locs, X, eT, hS, hk, hC, hF, hO⟩ := P
  exact ⟨vm0, k0, locs, X, eT, hS, hk, hC, hF, hO, State.Warmed39.trans C.2.1 hS.1, (hS.1.alike.findClass _ _).trans C.2.2.1⟩
theorem Pos.old (P : Pos Z EL n0 p l e R s m args below meth c T h k n) : Old Z n0 h := by obtain ⟨_, _, _, _, _, _, _, _, _, hO⟩ := P; exact hO
theorem Pos.n0le (P : Pos Z EL n0 p l e R s m args below meth c T h k n) : n0 ≤ h.size := by have := P.old; rw [← this.1]; exact this.2.1
theorem Pos.z (P : Pos Z EL n0 p l e R s m args below meth c T h k n) : Ext Z.heap h := P.old.2
theorem Pos.more (P : Pos Z EL n0 p l e R s m args below meth c T h k n) {k' n' : Nat} (hk : k ≤ k') (hn : n ≤ n') : Pos Z EL n0 p l e R s m args below meth c T h k' n' := by
  obtain ⟨vm0, k0, locs, X, r⟩ := P; exact ⟨vm0, k0, locs, X.more hk hn, r⟩
theorem blk (C : Ctx Z a0 EL p s m meth c own name bytes maxL ret) (P : Pos Z EL n0 p l e R s m args below meth c T h k n) (is : List Instr) (hd : decs bytes pc is = true) (hp : prun is pc L S = some (pc', L', S'))
    (r : Run p.tables e below F T (fr m pc' L' S')) : Run p.tables e below F T (fr m pc L S) := by
  obtain ⟨vm0, k0, locs, X, -⟩ := P
  exact Run.go (fun t q => prun_ok X.here C.1 is (by rw [C.2.2.2.1]; exact hd) hp q) r
def icY : ClassFile.Cond → Int32 → Prop
  | .eq, x => x = 0
  | .ne, x => ¬ x = 0
  | .lt, x => x < 0
  | .ge, x => ¬ x < 0
  | .gt, x => 0 < x
  | .le, x => ¬ 0 < x
def icN : ClassFile.Cond → Int32 → Prop
  | .eq, x => ¬ x = 0
  | .ne, x => x = 0
  | .lt, x => ¬ x < 0
  | .ge, x => x < 0
  | .gt, x => ¬ 0 < x
  | .le, x => 0 < x
theorem icY_ok {cd : ClassFile.Cond} {x : Int32} (q : icY cd x) : ifCond.holds cd x = true := by
  cases cd <;> simp only [icY] at q <;> simp [ifCond.holds, q] <;> exact Int32.not_lt.mp q
theorem icN_ok {cd : ClassFile.Cond} {x : Int32} (q : icN cd x) : ifCond.holds cd x = false := by
  cases cd <;> simp only [icN] at q <;> simp [ifCond.holds, q] <;> exact Int32.not_lt.mp q
theorem ic_or (cd : ClassFile.Cond) (x : Int32) : icY cd x ∨ icN cd x := by
  cases cd <;> simp only [icY, icN] <;> first | exact Classical.em _ | exact (Classical.em _).symm
def cmY : ClassFile.Cond → Int32 → Int32 → Prop
  | .eq, x, y => x = y
  | .ne, x, y => ¬ x = y
  | .lt, x, y => x < y
  | .ge, x, y => ¬ x < y
  | .gt, x, y => y < x
  | .le, x, y => ¬ y < x
def cmN : ClassFile.Cond → Int32 → Int32 → Prop
  | .eq, x, y => ¬ x = y
  | .ne, x, y => x = y
  | .lt, x, y => ¬ x < y
  | .ge, x, y => x < y
  | .gt, x, y => ¬ y < x
  | .le, x, y => y < x
theorem cmY_ok {cd : ClassFile.Cond} {x y : Int32} (q : cmY cd x y) : if_icmp.holds cd x y = true := by
  cases cd <;> simp only [cmY] at q <;> simp [if_icmp.holds, q] <;> exact Int32.not_lt.mp q
theorem cmN_ok {cd : ClassFile.Cond} {x y : Int32} (q : cmN cd x y) : if_icmp.holds cd x y = false := by
  cases cd <;> simp only [cmN] at q <;> simp [if_icmp.holds, q] <;> exact Int32.not_lt.mp q
theorem cm_or (cd : ClassFile.Cond) (x y : Int32) : cmY cd x y ∨ cmN cd x y := by
  cases cd <;> simp only [cmY, cmN] <;> first | exact Classical.em _ | exact (Classical.em _).symm
theorem b_goto (C : Ctx Z a0 EL p s m meth c own name bytes maxL ret) (P : Pos Z EL n0 p l e R s m args below meth c T h k n) {o : Int} (hd : decode bytes pc = .ok (.goto o, 3)) (ho : 0 ≤ (pc : Int) + o ∧ ((pc : Int) + o).toNat = pc')
    (r : Run p.tables e below F T (fr m pc' L S)) : Run p.tables e below F T (fr m pc L S) := by
  obtain ⟨vm0, k0, locs, X, -⟩ := P
  exact Run.go (fun t q => XS.goto X.here C.1 rfl (pc0 := pc) rfl (hb C.2.2.2.1 hd) ho.1 ho.2 q) r
theorem b_ifY (C : Ctx Z a0 EL p s m meth c own name bytes maxL ret) (P : Pos Z EL n0 p l e R s m args below meth c T h k n) {cd : ClassFile.Cond} {o : Int} {x : Int32} (hd : decode bytes pc = .ok (.ifCond cd o, 3)) (ho : 0 ≤ (pc : Int) + o ∧ ((pc : Int) + o).toNat = pc') (q : icY cd x)
    (r : Run p.tables e below F T (fr m pc' L S)) : Run p.tables e below F T (fr m pc L (.int x :: S)) := by
  obtain ⟨vm0, k0, locs, X, -⟩ := P
  exact Run.go (fun t z => XS.ifYes X.here C.1 rfl (pc0 := pc) rfl (hb C.2.2.2.1 hd) rfl (icY_ok q) ho.1 ho.2 z) r
theorem b_ifN (C : Ctx Z a0 EL p s m meth c own name bytes maxL ret) (P : Pos Z EL n0 p l e R s m args below meth c T h k n) {cd : ClassFile.Cond} {o : Int} {x : Int32} (hd : decode bytes pc = .ok (.ifCond cd o, 3)) (hq : pc + 3 = pc') (q : icN cd x)
    (r : Run p.tables e below F T (fr m pc' L S)) : Run p.tables e below F T (fr m pc L (.int x :: S)) := by
  subst hq
  obtain ⟨vm0, k0, locs, X, -⟩ := P
  exact Run.go (fun t z => XS.ifNo X.here C.1 rfl (hb C.2.2.2.1 hd) rfl (icN_ok q) z) r
theorem b_if (C : Ctx Z a0 EL p s m meth c own name bytes maxL ret) (P : Pos Z EL n0 p l e R s m args below meth c T h k n) {cd : ClassFile.Cond} {o : Int} {x : Int32} {pn : Nat} (hd : decode bytes pc = .ok (.ifCond cd o, 3)) (ho : 0 ≤ (pc : Int) + o ∧ ((pc : Int) + o).toNat = pc') (hq : pc + 3 = pn)
    (y : icY cd x → Run p.tables e below F T (fr m pc' L S)) (no : icN cd x → Run p.tables e below F T (fr m pn L S)) : Run p.tables e below F T (fr m pc L (.int x :: S)) :=
  (ic_or cd x).elim (fun q => b_ifY C P hd ho q (y q)) (fun q => b_ifN C P hd hq q (no q))
theorem b_cmY (C : Ctx Z a0 EL p s m meth c own name bytes maxL ret) (P : Pos Z EL n0 p l e R s m args below meth c T h k n) {cd : ClassFile.Cond} {o : Int} {x y : Int32} (hd : decode bytes pc = .ok (.if_icmp cd o, 3)) (ho : 0 ≤ (pc : Int) + o ∧ ((pc : Int) + o).toNat = pc') (q : cmY cd x y)
    (r : Run p.tables e below F T (fr m pc' L S)) : Run p.tables e below F T (fr m pc L (.int y :: .int x :: S)) := by
  obtain ⟨vm0, k0, locs, X, -⟩ := P
  exact Run.go (fun t z => XS.icmpYes X.here C.1 rfl (pc0 := pc) rfl (hb C.2.2.2.1 hd) rfl (cmY_ok q) ho.1 ho.2 z) r
theorem b_cmN (C : Ctx Z a0 EL p s m meth c own name bytes maxL ret) (P : Pos Z EL n0 p l e R s m args below meth c T h k n) {cd : ClassFile.Cond} {o : Int} {x y : Int32} (hd : decode bytes pc = .ok (.if_icmp cd o, 3)) (hq : pc + 3 = pc') (q : cmN cd x y)
    (r : Run p.tables e below F T (fr m pc' L S)) : Run p.tables e below F T (fr m pc L (.int y :: .int x :: S)) := by
  subst hq
  obtain ⟨vm0, k0, locs, X, -⟩ := P
  exact Run.go (fun t z => XS.icmpNo X.here C.1 rfl (hb C.2.2.2.1 hd) rfl (cmN_ok q) z) r
theorem b_cm (C : Ctx Z a0 EL p s m meth c own name bytes maxL ret) (P : Pos Z EL n0 p l e R s m args below meth c T h k n) {cd : ClassFile.Cond} {o : Int} {x y : Int32} {pn : Nat} (hd : decode bytes pc = .ok (.if_icmp cd o, 3)) (ho : 0 ≤ (pc : Int) + o ∧ ((pc : Int) + o).toNat = pc') (hq : pc + 3 = pn)
    (yes : cmY cd x y → Run p.tables e below F T (fr m pc' L S)) (no : cmN cd x y → Run p.tables e below F T (fr m pn L S)) : Run p.tables e below F T (fr m pc L (.int y :: .int x :: S)) :=
  (cm_or cd x y).elim (fun q => b_cmY C P hd ho q (yes q)) (fun q => b_cmN C P hd hq q (no q))
theorem b_nullY (C : Ctx Z a0 EL p s m meth c own name bytes maxL ret) (P : Pos Z EL n0 p l e R s m args below meth c T h k n) {o : Int} (hd : decode bytes pc = .ok (.ifnull o, 3)) (ho : 0 ≤ (pc : Int) + o ∧ ((pc : Int) + o).toNat = pc')
    (r : Run p.tables e below F T (fr m pc' L S)) : Run p.tables e below F T (fr m pc L (.null :: S)) := by
  obtain ⟨vm0, k0, locs, X, -⟩ := P
  exact Run.go (fun t z => XS.ifnullYes X.here C.1 rfl (pc0 := pc) rfl (hb C.2.2.2.1 hd) rfl ho.1 ho.2 z) r
theorem b_nullN (C : Ctx Z a0 EL p s m meth c own name bytes maxL ret) (P : Pos Z EL n0 p l e R s m args below meth c T h k n) {o : Int} {a : Addr} (hd : decode bytes pc = .ok (.ifnull o, 3)) (hq : pc + 3 = pc')
    (r : Run p.tables e below F T (fr m pc' L S)) : Run p.tables e below F T (fr m pc L (.ref a :: S)) := by
  subst hq
  obtain ⟨vm0, k0, locs, X, -⟩ := P
  exact Run.go (fun t z => XS.ifnullNo X.here C.1 rfl (hb C.2.2.2.1 hd) rfl z) r
theorem b_nonnullY (C : Ctx Z a0 EL p s m meth c own name bytes maxL ret) (P : Pos Z EL n0 p l e R s m args below meth c T h k n) {o : Int} {a : Addr} (hd : decode bytes pc = .ok (.ifnonnull o, 3)) (ho : 0 ≤ (pc : Int) + o ∧ ((pc : Int) + o).toNat = pc')
    (r : Run p.tables e below F T (fr m pc' L S)) : Run p.tables e below F T (fr m pc L (.ref a :: S)) := by
  obtain ⟨vm0, k0, locs, X, -⟩ := P
  exact Run.go (fun t z => XT.ifnonnullYes X.here C.1 rfl (pc0 := pc) rfl (hb C.2.2.2.1 hd) rfl ho.1 ho.2 z) r
theorem b_nonnullN (C : Ctx Z a0 EL p s m meth c own name bytes maxL ret) (P : Pos Z EL n0 p l e R s m args below meth c T h k n) {o : Int} (hd : decode bytes pc = .ok (.ifnonnull o, 3)) (hq : pc + 3 = pc')
    (r : Run p.tables e below F T (fr m pc' L S)) : Run p.tables e below F T (fr m pc L (.null :: S)) := by
  subst hq
  obtain ⟨vm0, k0, locs, X, -⟩ := P
  exact Run.go (fun t z => XT.ifnonnullNo X.here C.1 rfl (hb C.2.2.2.1 hd) rfl z) r
theorem b_acmp (C : Ctx Z a0 EL p s m meth c own name bytes maxL ret) (P : Pos Z EL n0 p l e R s m args below meth c T h k n) {cd : ACond} {o : Int} {x y : Value} (h1 : x.isRef = true) (h2 : y.isRef = true) {same : Bool} (hd : decode bytes pc = .ok (.if_acmp cd o, 3)) (hq : decide (x = y) = same) (ho : 0 ≤ (pc : Int) + o) (hp : pc' = if acV cd same = true then ((pc : Int) + o).toNat else pc + 3)
    (r : Run p.tables e below F T (fr m pc' L S)) : Run p.tables e below F T (fr m pc L (y :: x :: S)) := by
  obtain ⟨vm0, k0, locs, X, -⟩ := P
  exact Run.go (fun t z => acmp X C.1 rfl h1 h2 (pc0 := pc) rfl (hb C.2.2.2.1 hd) rfl hq ho hp z) r
theorem s_irem (C : Ctx Z a0 EL p s m meth c own name bytes maxL ret) (P : Pos Z EL n0 p l e R s m args below meth c T h k n) {x y : Int32} (hd : decode bytes pc = .ok (.irem, 1)) (hy : y ≠ 0) (hq : pc + 1 = pc')
    (r : Run p.tables e below F T (fr m pc' L (.int (x % y) :: S))) : Run p.tables e below F T (fr m pc L (.int y :: .int x :: S)) := by
  subst hq
  obtain ⟨vm0, k0, locs, X, -⟩ := P
  exact Run.go (fun t z => iremM X C.1 rfl (hb C.2.2.2.1 hd) rfl hy z) r
theorem s_aloadN (C : Ctx Z a0 EL p s m meth c own name bytes maxL ret) (P : Pos Z EL n0 p l e R s m args below meth c T h k n) {i : Fin 4} {v : Value} (hd : decode bytes pc = .ok (.aload_n i, 1)) (hl : lget L i.val = some (.val v)) (hv : v.isRef = true) (hq : pc + 1 = pc')
    (r : Run p.tables e below F T (fr m pc' L (v :: S))) : Run p.tables e below F T (fr m pc L S) := by
  subst hq
  obtain ⟨vm0, k0, locs, X, -⟩ := P
  exact Run.go (fun t z => XS.aloadN X.here C.1 rfl (hb C.2.2.2.1 hd) ((lget_eq _ _).trans hl) hv z) r
theorem s_aload (C : Ctx Z a0 EL p s m meth c own name bytes maxL ret) (P : Pos Z EL n0 p l e R s m args below meth c T h k n) {i : Nat} {v : Value} (hd : decode bytes pc = .ok (.aload i, 2)) (hl : lget L i = some (.val v)) (hv : v.isRef = true) (hq : pc + 2 = pc')
    (r : Run p.tables e below F T (fr m pc' L (v :: S))) : Run p.tables e below F T (fr m pc L S) := by
  subst hq
  obtain ⟨vm0, k0, locs, X, -⟩ := P
  exact Run.go (fun t z => XS.aload X.here C.1 rfl (hb C.2.2.2.1 hd) ((lget_eq _ _).trans hl) hv z) r
theorem s_getf (C : Ctx Z a0 EL p s m meth c own name bytes maxL ret) (P : Pos Z EL n0 p l e R s m args below meth c T h k n) {idx : Nat} {O nm d : String} {a : Addr} {v : Value} (hd : decode bytes pc = .ok (.getfield idx, 3)) (w : (Jvm.Cond.fieldLink own idx O nm d).before a0 Z = true) (G : Fld Z h a O nm d v) (hq : pc + 3 = pc')
    (r : ∀ T', Pos Z EL n0 p l e R s m args below meth c T' h k n → Run p.tables e below F T' (fr m pc' L (v :: S))) : Run p.tables e below F T (fr m pc L (.ref a :: S)) := by
  subst hq
  obtain ⟨vm0, k0, locs, X, eT, hS, hk, hC, hF, hO, hZ, hown⟩ := P.opened C
  obtain ⟨T', X', e', st⟩ := getF X C.1 hZ hown (host := "") (Or.inl w) Via.refl eT G (g := fr m pc L (.ref a :: S)) rfl rfl (hb C.2.2.2.1 hd)
  exact Run.go st (r T' ⟨vm0, k0, locs, X', e', hS, hk, hC, hF, hO⟩)
theorem s_gets (C : Ctx Z a0 EL p s m meth c own name bytes maxL ret) (P : Pos Z EL n0 p l e R s m args below meth c T h k n) {idx : Nat} {O nm d : String} {v : Value} (hd : decode bytes pc = .ok (.getstatic idx, 3)) (w : (Jvm.Cond.fieldLink own idx O nm d).before a0 Z = true) (G : Sta Z Z.heap O nm d v) (hq : pc + 3 = pc')
    (r : ∀ T', Pos Z EL n0 p l e R s m args below meth c T' h k n → Run p.tables e below F T' (fr m pc' L (v :: S))) : Run p.tables e below F T (fr m pc L S) := by
  subst hq
  have G' := G.ext P.z
  obtain ⟨vm0, k0, locs, X, eT, hS, hk, hC, hF, hO, hZ, hown⟩ := P.opened C
  obtain ⟨T', X', e', st⟩ := getS X C.1 hZ hown (host := "") w Via.refl eT G' (g := fr m pc L S) rfl (hb C.2.2.2.1 hd)
  exact Run.go st (r T' ⟨vm0, k0, locs, X', e', hS, hk, hC, hF, hO⟩)
/-- a putfield of a constructor, on the object that it makes (no String) -/
theorem s_putf (C : Ctx Z a0 EL p s m meth c own name bytes maxL ret) (P : Pos Z EL n0 p l e R s m args below meth c T h k n) {idx kk : Nat} {nm d K : String} {a : Addr} {v old : Value} {ty : FieldType} (hd : decode bytes pc = .ok (.putfield idx, 3)) (w : (Jvm.Cond.fieldLink own idx own nm d).before a0 Z = true)
    (ge : n0 ≤ a) (G : Fld Z h a own nm d old) (E : Exa Z h a K) (wl : (Jvm.Cond.laysFinal K own nm d).before a0 Z = true) (hname : name = "<init>") (wi : (Jvm.Cond.instantiable K kk).before a0 Z = true) (hK : K ≠ sST ∧ K ≠ "[B") (hty : parseFieldDescriptor d = some ty) (hn : narrow ty v = v) (hf : fits ty v = true) (hq : pc + 3 = pc')
    (r : ∀ T' h', Pos Z EL n0 p l e R s m args below meth c T' h' k n → Wr h h' a (RoadKit.slotOf Z own nm d) v → Run p.tables e below F T' (fr m pc' L S)) : Run p.tables e below F T (fr m pc L (v :: .ref a :: S)) := by
  subst hq
  obtain ⟨vm0, k0, locs, X, eT, hS, hk, hC, hF, hO, hZ, hown⟩ := P.opened C
  obtain ⟨T', h', X', e', W, st⟩ := putF X C.1 hZ hown (host := "") (Or.inl w) Via.refl eT G E (Or.inr ⟨wl, rfl, by rw [C.2.2.2.2.2.2.1]; exact hname⟩) wi hty hn hf (g := fr m pc L (v :: .ref a :: S)) rfl rfl (hb C.2.2.2.1 hd)
  have hz : h'.size = h.size := W.size
  exact Run.go st (r T' h' ⟨vm0, k0, _, X', e', hS, by rw [hz]; exact hk, hC.trans (CHr.wr W (Safe.exa hZ.alike E hK.1 hK.2) hC.1), Fr.snoc X' hF ge, hO.wr W ge⟩ W)
/-- the same for a field that isn't final -/
theorem s_putv (C : Ctx Z a0 EL p s m meth c own name bytes maxL ret) (P : Pos Z EL n0 p l e R s m args below meth c T h k n) {idx kk : Nat} {O nm d K : String} {a : Addr} {v old : Value} {ty : FieldType} (hd : decode bytes pc = .ok (.putfield idx, 3)) (w : (Jvm.Cond.fieldLink own idx O nm d).before a0 Z = true)
    (ge : n0 ≤ a) (G : Fld Z h a O nm d old) (E : Exa Z h a K) (wl : (Jvm.Cond.lays K O nm d).before a0 Z = true) (wi : (Jvm.Cond.instantiable K kk).before a0 Z = true) (hK : K ≠ sST ∧ K ≠ "[B") (hty : parseFieldDescriptor d = some ty) (hn : narrow ty v = v) (hf : fits ty v = true) (hq : pc + 3 = pc')
    (r : ∀ T' h', Pos Z EL n0 p l e R s m args below meth c T' h' k n → Wr h h' a (RoadKit.slotOf Z O nm d) v → Run p.tables e below F T' (fr m pc' L S)) : Run p.tables e below F T (fr m pc L (v :: .ref a :: S)) := by
  subst hq
  obtain ⟨vm0, k0, locs, X, eT, hS, hk, hC, hF, hO, hZ, hown⟩ := P.opened C
  obtain ⟨T', h', X', e', W, st⟩ := putF X C.1 hZ hown (host := "") (Or.inl w) Via.refl eT G E (Or.inl wl) wi hty hn hf (g := fr m pc L (v :: .ref a :: S)) rfl rfl (hb C.2.2.2.1 hd)
  have hz : h'.size = h.size := W.size
  exact Run.go st (r T' h' ⟨vm0, k0, _, X', e', hS, by rw [hz]; exact hk, hC.trans (CHr.wr W (Safe.exa hZ.alike E hK.1 hK.2) hC.1), Fr.snoc X' hF ge, hO.wr W ge⟩ W)
theorem s_new (C : Ctx Z a0 EL p s m meth c own name bytes maxL ret) (P : Pos Z EL n0 p l e R s m args below meth c T h k n) {idx nf : Nat} {K : String} (hd : decode bytes pc = .ok (.new idx, 3)) (w : (Jvm.Cond.classLink own idx K).before a0 Z = true) (wi : (Jvm.Cond.instantiable K nf).before a0 Z = true) (wz : (Jvm.Cond.initialized K).before a0 Z = true)
    (hc : k + 1 ≤ R.cells) (hl : n + nf ≤ R.slots) (hq : pc + 3 = pc')
    (r : ∀ T' h', Pos Z EL n0 p l e R s m args below meth c T' h' (k + 1) (n + nf) → Ext h h' → Blk Z a0 n0 h' h.size K → Run p.tables e below F T' (fr m pc' L (.ref h.size :: S))) : Run p.tables e below F T (fr m pc L S) := by
  subst hq
  have ge := P.n0le
  obtain ⟨vm0, k0, locs, X, eT, hS, hk, hC, hF, hO, hZ, hown⟩ := P.opened C
  obtain ⟨T', h', X', e', E, A, D, -, st⟩ := newO X C.1 hZ hown w wi wz eT (g := fr m pc L S) rfl (hb C.2.2.2.1 hd) hc hl
  exact Run.go st (r T' h' ⟨vm0, k0, locs, X', e', hS, Nat.le_trans hk E.1, hC.trans (CHr.ext E hC.1), hF, hO.ext E⟩ E ⟨ge, A, D⟩)
theorem s_newC (C : Ctx Z a0 EL p s m meth c own name bytes maxL ret) (P : Pos Z EL n0 p l e R s m args below meth c T h k n) {z : Int32} (len : Nat) (hd : decode bytes pc = .ok (.newarray .char, 2)) (w : (Jvm.Cond.arrayClass .char).before a0 Z = true)
    (hz : z = Int32.ofNat len) (hlen : len ≤ 4000) (hc : k + 1 ≤ R.cells) (hl : n + len ≤ R.slots) (hq : pc + 2 = pc')
    (r : ∀ T' h', Pos Z EL n0 p l e R s m args below meth c T' h' (k + 1) (n + len) → Ext h h' → Chs Z n0 h' h.size (List.replicate len 0) → Run p.tables e below F T' (fr m pc' L (.ref h.size :: S))) : Run p.tables e below F T (fr m pc L (.int z :: S)) := by
  subst hq
  have ge := P.n0le
  have e1 : z.toInt = len := by rw [hz]; exact len_toInt (by omega)
  have hnn : ¬ z < 0 := by rw [Int32.lt_iff_toInt_lt, e1]; show ¬ (len : Int) < 0; omega
  have hcl : z.toNatClampNeg = len := by simp only [Int32.toNatClampNeg, e1]; rfl
  obtain ⟨vm0, k0, locs, X, eT, hS, hk, hC, hF, hO, hZ, hown⟩ := P.opened C
  obtain ⟨T', h', cA, X', e', E, A, st⟩ := newP X C.1 hZ (aty := .char) w eT (n := z) (rest := S) (g := fr m pc L (.int z :: S)) rfl (hb C.2.2.2.1 hd) rfl hnn (cap := len) (Nat.le_of_eq hcl) (by omega) hc hl
  have V0 : Arv Z h' h.size cA .char z [] (.int 0) := Arv.new A hnn
  have V : Arv Z h' h.size cA .char z ((List.replicate len (0 : Int32)).map Value.int) (.int 0) := V0.pad (fun i => by
    rw [List.map_replicate]; exact pad_rep [] (Value.int 0) len i)
  have V' : Arv Z h' h.size cA .char (Int32.ofNat (List.replicate len (0 : Int32)).length) ((List.replicate len (0 : Int32)).map Value.int) (.int 0) := by rw [List.length_replicate, ← hz]; exact V
  exact Run.go st (r T' h' ⟨vm0, k0, locs, X', e', hS, Nat.le_trans hk E.1, hC.trans (CHr.ext E hC.1), hF, hO.ext E⟩ E ⟨ge, by rw [List.length_replicate]; exact hlen, cA, V'⟩)
theorem s_stC (C : Ctx Z a0 EL p s m meth c own name bytes maxL ret) (P : Pos Z EL n0 p l e R s m args below meth c T h k n) {j x : Int32} {b : Addr} {vs : List Int32} (i : Nat) (hd : decode bytes pc = .ok (.castore, 1)) (B : Chs Z n0 h b vs) (hj : j = Int32.ofNat i) (hi : i < vs.length) (hx : c16 x = x) (hq : pc + 1 = pc')
    (r : ∀ T' h', Pos Z EL n0 p l e R s m args below meth c T' h' k n → Keep h h' [b] → Chs Z n0 h' b (vs.set i x) → Run p.tables e below F T' (fr m pc' L S)) : Run p.tables e below F T (fr m pc L (.int x :: .int j :: .ref b :: S)) := by
  subst hq hj
  obtain ⟨ge, hlen, kb, cl, A, q1, q2, q3, H, G⟩ := B
  have e1 : (Int32.ofNat i).toInt = i := len_toInt (by omega)
  have e2 : (Int32.ofNat vs.length).toInt = vs.length := len_toInt (by omega)
  have hin : ¬ ((Int32.ofNat i) < 0 ∨ cl.slots.size ≤ (Int32.ofNat i).toNatClampNeg) := inb_of q2 ⟨by rw [Int32.lt_iff_toInt_lt, e1]; show ¬ (i : Int) < 0; omega, by rw [Int32.lt_iff_toInt_lt, e1, e2]; omega⟩
  obtain ⟨vm0, k0, locs, X, eT, hS, hk, hC, hF, hO, hZ, hown⟩ := P.opened C
  obtain ⟨T', h', X', e', W, st⟩ := stC X C.1 hZ eT A (j := Int32.ofNat i) (x := x) hin (g := fr m pc L (.int x :: .int (Int32.ofNat i) :: .ref b :: S)) rfl rfl (hb C.2.2.2.1 hd)
  have hnar : nar .char x = x := hx
  have hci : (Int32.ofNat i).toNatClampNeg = i := by simp only [Int32.toNatClampNeg, e1]; rfl
  have V := Arv.set A q1 q2 q3 H G (fits_nar_char x) W i hci (by simpa using hi)
  have hz : h'.size = h.size := W.size
  rw [hnar, ← List.map_set] at V
  exact Run.go st (r T' h' ⟨vm0, k0, _, X', e', hS, by rw [hz]; exact hk, hC.trans (CHr.wr W (Safe.arr hZ.alike A (by decide)) hC.1), Fr.snoc X' hF ge, hO.wr W ge⟩ (Keep.of_wr W) ⟨ge, by simpa using hlen, kb, by simpa using V⟩)
theorem s_initO (C : Ctx Z a0 EL p s m meth c own name bytes maxL ret) (P : Pos Z EL n0 p l e R s m args below meth c T h k n) {idx : Nat} {a : Addr} {W : Nat} (hd : decode bytes pc = .ok (.invokespecial idx, 3)) (w1 : (Jvm.Cond.methodLink own idx Lib.objectInit).before a0 Z = true) (w2 : (Jvm.Cond.instanceMethod Lib.objectInit).before a0 Z = true)
    (w3 : (Jvm.Cond.code Lib.objectInit ⟨#[0xb1]⟩ 1 none).before a0 Z = true) (hL : L.length = maxL) (hf : 1 ≤ R.frames) (hW : (S.map fun v => v.category).sum ≤ W) (hl : W + 12 ≤ R.locals) (hq : pc + 3 = pc')
    (r : ∀ T', Pos Z EL n0 p l e R s m args below meth c T' h k n → Run p.tables e below F T' (fr m pc' L S)) : Run p.tables e below F T (fr m pc L (.ref a :: S)) := by
  subst hq
  obtain ⟨vm0, k0, locs, X, eT, hS, hk, hC, hF, hO, hZ, hown⟩ := P.opened C
  obtain ⟨T', X', e', st⟩ := initO X C.1 hZ hown w1 w2 w3 eT (g := fr m pc L (.ref a :: S)) rfl (by rw [C.2.2.2.2.1]; exact hL) rfl (hb C.2.2.2.1 hd) hf (W := W) (by show 2 * 0 + _ ≤ _; omega) hl
  exact Run.go st (r T' ⟨vm0, k0, locs, X', e', hS, hk, hC, hF, hO⟩)
theorem s_castY (C : Ctx Z a0 EL p s m meth c own name bytes maxL ret) (P : Pos Z EL n0 p l e R s m args below meth c T h k n) {idx : Nat} {K : String} {a : Addr} (hd : decode bytes pc = .ok (.checkcast idx, 3)) (w : (Jvm.Cond.classLink own idx K).before a0 Z = true) (I : Ins Z h a K true) (hq : pc + 3 = pc')
    (r : ∀ T', Pos Z EL n0 p l e R s m args below meth c T' h k n → Run p.tables e below F T' (fr m pc' L (.ref a :: S))) : Run p.tables e below F T (fr m pc L (.ref a :: S)) := by
  subst hq
  obtain ⟨vm0, k0, locs, X, eT, hS, hk, hC, hF, hO, hZ, hown⟩ := P.opened C
  obtain ⟨T', X', e', st⟩ := castY X C.1 hZ hown w eT I (g := fr m pc L (.ref a :: S)) rfl rfl (hb C.2.2.2.1 hd)
  exact Run.go st (r T' ⟨vm0, k0, locs, X', e', hS, hk, hC, hF, hO⟩)
theorem s_instY (C : Ctx Z a0 EL p s m meth c own name bytes maxL ret) (P : Pos Z EL n0 p l e R s m args below meth c T h k n) {idx : Nat} {K : String} {a : Addr} (hd : decode bytes pc = .ok (.instanceof idx, 3)) (w : (Jvm.Cond.classLink own idx K).before a0 Z = true) (I : Ins Z h a K true) (hq : pc + 3 = pc')
    (r : ∀ T', Pos Z EL n0 p l e R s m args below meth c T' h k n → Run p.tables e below F T' (fr m pc' L (.int 1 :: S))) : Run p.tables e below F T (fr m pc L (.ref a :: S)) := by
  subst hq
  obtain ⟨vm0, k0, locs, X, eT, hS, hk, hC, hF, hO, hZ, hown⟩ := P.opened C
  obtain ⟨T', X', e', st⟩ := instY X C.1 hZ hown w eT I (g := fr m pc L (.ref a :: S)) rfl rfl (hb C.2.2.2.1 hd)
  exact Run.go st (r T' ⟨vm0, k0, locs, X', e', hS, hk, hC, hF, hO⟩)
theorem s_instN (C : Ctx Z a0 EL p s m meth c own name bytes maxL ret) (P : Pos Z EL n0 p l e R s m args below meth c T h k n) {idx : Nat} {K K' : String} {a : Addr} (hd : decode bytes pc = .ok (.instanceof idx, 3)) (w : (Jvm.Cond.classLink own idx K).before a0 Z = true) (I : Ins Z s.heap a K false) (E : Exa Z s.heap a K') (hq : pc + 3 = pc')
    (r : ∀ T', Pos Z EL n0 p l e R s m args below meth c T' h k n → Run p.tables e below F T' (fr m pc' L (.int 0 :: S))) : Run p.tables e below F T (fr m pc L (.ref a :: S)) := by
  subst hq
  obtain ⟨vm0, k0, locs, X, eT, hS, hk, hC, hF, hO, hZ, hown⟩ := P.opened C
  obtain ⟨T', X', e', st⟩ := instN X C.1 hZ hown w eT I E (g := fr m pc L (.ref a :: S)) rfl rfl (hb C.2.2.2.1 hd)
  exact Run.go st (r T' ⟨vm0, k0, locs, X', e', hS, hk, hC, hF, hO⟩)
theorem s_inst0 (C : Ctx Z a0 EL p s m meth c own name bytes maxL ret) (P : Pos Z EL n0 p l e R s m args below meth c T h k n) {idx : Nat} (hd : decode bytes pc = .ok (.instanceof idx, 3)) (hq : pc + 3 = pc')
    (r : Run p.tables e below F T (fr m pc' L (.int 0 :: S))) : Run p.tables e below F T (fr m pc L (.null :: S)) := by
  subst hq
  obtain ⟨vm0, k0, locs, X, -⟩ := P
  exact Run.go (X.instanceofNull C.1 rfl rfl (hb C.2.2.2.1 hd)) r
/-- ldc of a constant of EL, read -/
theorem s_ldc (C : Ctx Z a0 EL p s m meth c own name bytes maxL ret) (P : Pos Z EL n0 p l e R s m args below meth c T h k n) {idx len : Nat} {text : String} (cs : List Int32) (hd : decode bytes pc = .ok (.ldc idx, 2)) (w : (Jvm.Cond.stringLink own idx text).before a0 Z = true) (wS : ∀ a ∈ Bundle.stringAtoms, a.before a0 Z = true) (hmem : (own, idx) ∈ EL)
    (ht : (∀ c ∈ text.toList, c.toNat < 256) ∧ text.toList.map (fun c => Value.int (Jvm.Lit.byteI c.toNat.toUInt16)) = (cs.map fun c => c.toInt8.toInt32).map Value.int) (hlen : cs.length ≤ 4000) (hcs : ∀ c ∈ cs, ¬ c < 0 ∧ ¬ (255 : Int32) < c) (hn : 4 * text.toList.length ≤ len) (hbig : len ≤ 536870912) (hc : k + 2 ≤ R.cells) (hl : n + (len + 4) ≤ R.slots) (hq : pc + 2 = pc')
    (r : ∀ T' h' a, Pos Z EL n0 p l e R s m args below meth c T' h' (k + 2) (n + (len + 4)) → Ext h h' → Str Z h' a cs → Run p.tables e below F T' (fr m pc' L (.ref a :: S))) : Run p.tables e below F T (fr m pc L S) := by
  subst hq
  have e1 : (Int32.ofNat cs.length).toInt = cs.length := len_toInt (by omega)
  obtain ⟨vm0, k0, locs, X, eT, hS, hk, hC, hF, hO, hZ, hown⟩ := P.opened C
  obtain ⟨a, T', h', k1, b, kb, X', e', E, hS', hk', hZ', hown', r1, r2, r3, r4, r5, r6, hC', hLit, hne, st⟩ := ldcCH X C.1 hZ hown w wS eT hS hk C.2.2.2.2.2.2.2.2 hmem hC.1 (z := Int32.ofNat cs.length) ht (by rw [Int32.lt_iff_toInt_lt, e1]; show ¬ (cs.length : Int) < 0; omega) (by simp only [Int32.toNatClampNeg, e1, List.length_map]; rfl) (g := fr m pc L S) rfl (hb C.2.2.2.1 hd) hn hbig hc hl
  exact Run.go st (r T' h' a ⟨T'.vm, k1, locs, X', e', hS', hk', hC.trans hC', hF, hO.ext E⟩ E ⟨hlen, hcs, r1, r2, b, kb, r3, r4⟩)
/-- what the caller has behind a call of a callee that may intern -/
theorem Pos.back {vm0 : Vm} {k0 : Nat} {locs Lc : List Loc} {U : State} {k' n' : Nat} (hS : s.Since vm0 k0) (hk : k0 ≤ h.size) (eT : T.heap = h) (hC : CHr Z EL s.vm s.heap vm0 h) (hF : Fr n0 locs)
    (X : Stand p l e R ((s.setVm vm0).setVm U.vm) m args below meth c U (locs ++ Lc) k' n') (h2 : (s.setVm vm0).Since U.vm U.heap.size) (g : T.heap.size ≤ U.heap.size) (hL : Fr n0 Lc) (hO : Old Z n0 U.heap) (hR : CHr Z EL vm0 h U.vm U.heap) :
    Pos Z EL n0 p l e R s m args below meth c U U.heap k' n' :=
  ⟨U.vm, U.heap.size, locs ++ Lc, X, rfl, hS.trans h2 (Nat.le_trans hk (eT ▸ g)), Nat.le_refl _, hC.trans hR, hF.app hL, hO⟩
section Calls
variable {y : MethodName} {ybytes : ByteArray} {ymax : Nat} {yret : Option FieldType} {yrm : Room} {argsL rest : List Value} {ps : List FieldType} {rt : Option FieldType} {W idx : Nat}
theorem c_static (C : Ctx Z a0 EL p s m meth c own name bytes maxL ret) (P : Pos Z EL n0 p l e R s m args below meth c T h k n) {Q1 : Value → Heap → Prop} (hd : decode bytes pc = .ok (.invokestatic idx, 3)) (w1 : (Jvm.Cond.methodLink own idx y).before a0 Z = true) (w2 : (Jvm.Cond.static y).before a0 Z = true) (w3 : (Jvm.Cond.initialized y.cls).before a0 Z = true) (w4 : (Jvm.Cond.code y ybytes ymax yret).before a0 Z = true)
    (hy : y.cls ≠ "java/lang/invoke/MethodHandle" ∧ y.cls ≠ "java/lang/invoke/VarHandle") (argsL rest : List Value) (K : Con l Z EL n0 [] y ybytes ymax yret yrm argsL.toArray h (Ret1 Q1)) (hfr : yrm.frames + 1 ≤ R.frames) (hlo : W + (ymax + 11) + yrm.locals ≤ R.locals) (pd : parseMethodDescriptor y.desc = some ⟨ps, rt⟩) (hps : argsL.length = ps.length) (hS : S = argsL.reverse ++ rest)
    (hL : L.length = maxL) (hW : (rest.map fun v => v.category).sum ≤ W) (hc : k + yrm.cells ≤ R.cells) (hl : n + yrm.slots ≤ R.slots) (hq : pc + 3 = pc')
    (r : ∀ T' h' v, Pos Z EL n0 p l e R s m args below meth c T' h' (k + yrm.cells) (n + yrm.slots) → Q1 v h' → Run p.tables e below F T' (fr m pc' L (v :: rest))) : Run p.tables e below F T (fr m pc L S) := by
  subst hq hS
  obtain ⟨vm0, k0, locs, X, eT, hS, hk, hC, hF, hO, hZ, hown⟩ := P.opened C
  obtain ⟨v, vm₁, ⟨U, Ls, kk, nn⟩, -, X', h2, hgr, ⟨Lc, ⟨⟨w, rfl, hQ⟩, hFL, hOU⟩, l1, l2, l3, hR⟩, st⟩ := callSS X C.1 (y := y) hown (mvT hZ w1) (mvT hZ w2) (mvT hZ w3) (mvT hZ w4) hy (backOfSH (W := W) (Q := fun v h' L => Ret1 Q1 v h' ∧ Fr n0 L ∧ Old Z n0 h') K hZ w4 w3 hfr hlo C.2.2.2.2.2.2.2.2 hC.1) (g := fr m pc L (argsL.reverse ++ rest)) rfl (by rw [C.2.2.2.2.1]; exact hL) (argsL := argsL) (rest := rest) (lenOf pd hps) rfl (by show 2 * 0 + _ ≤ _; omega) (hb C.2.2.2.1 hd) (fun _ _ => ⟨rfl, eT, hc, hl⟩)
  dsimp only [Pt.U, Pt.locs, Pt.cells, Pt.slots] at X' h2 hgr l1 l2 l3 hR hQ hOU st
  subst l1 l2 l3
  exact Run.after st (r U U.heap w (Pos.back hS hk eT hC hF X' h2 hgr hFL hOU hR) hQ)
theorem c_special (C : Ctx Z a0 EL p s m meth c own name bytes maxL ret) (P : Pos Z EL n0 p l e R s m args below meth c T h k n) {Q0 : Heap → Prop} {a : Addr} (hname : y.name = "<init>") (hd : decode bytes pc = .ok (.invokespecial idx, 3)) (w1 : (Jvm.Cond.methodLink own idx y).before a0 Z = true) (w2 : (Jvm.Cond.instanceMethod y).before a0 Z = true) (w3 : (Jvm.Cond.initialized y.cls).before a0 Z = true) (w4 : (Jvm.Cond.code y ybytes ymax none).before a0 Z = true)
    (hy : y.cls ≠ "java/lang/invoke/MethodHandle" ∧ y.cls ≠ "java/lang/invoke/VarHandle") (argsL rest : List Value) (K : Con l Z EL n0 [] y ybytes ymax none yrm (.ref a :: argsL).toArray h (Ret0 Q0)) (hfr : yrm.frames + 1 ≤ R.frames) (hlo : W + (ymax + 11) + yrm.locals ≤ R.locals) (pd : parseMethodDescriptor y.desc = some ⟨ps, rt⟩) (hps : argsL.length = ps.length) (hS : S = argsL.reverse ++ .ref a :: rest)
    (hL : L.length = maxL) (hW : (rest.map fun v => v.category).sum ≤ W) (hc : k + yrm.cells ≤ R.cells) (hl : n + yrm.slots ≤ R.slots) (hq : pc + 3 = pc')
    (r : ∀ T' h', Pos Z EL n0 p l e R s m args below meth c T' h' (k + yrm.cells) (n + yrm.slots) → Q0 h' → Run p.tables e below F T' (fr m pc' L rest)) : Run p.tables e below F T (fr m pc L S) := by
  subst hq hS
  obtain ⟨vm0, k0, locs, X, eT, hS, hk, hC, hF, hO, hZ, hown⟩ := P.opened C
  obtain ⟨v, vm₁, ⟨U, Ls, kk, nn⟩, -, X', h2, hgr, ⟨Lc, ⟨⟨rfl, hQ⟩, hFL, hOU⟩, l1, l2, l3, hR⟩, st⟩ := X.specialBackS C.1 (y := y) hname hown (mvT hZ w1) (mvT hZ w2) (mvT hZ w4) hy (backOfSH (W := W) (Q := fun v h' L => Ret0 Q0 v h' ∧ Fr n0 L ∧ Old Z n0 h') K hZ w4 w3 hfr hlo C.2.2.2.2.2.2.2.2 hC.1) (g := fr m pc L (argsL.reverse ++ .ref a :: rest)) rfl (by rw [C.2.2.2.2.1]; exact hL) (Steps.refl _) (a := a) (argsL := argsL) (rest := rest) (lenOf pd hps) rfl (by show 2 * 0 + _ ≤ _; omega) (hb C.2.2.2.1 hd) (fun _ _ => ⟨rfl, eT, hc, hl⟩)
  dsimp only [Pt.U, Pt.locs, Pt.cells, Pt.slots] at X' h2 hgr l1 l2 l3 hR hQ hOU st
  subst l1 l2 l3
  exact Run.after st (r U U.heap (Pos.back hS hk eT hC hF X' h2 hgr hFL hOU hR) hQ)
theorem c_virtual (C : Ctx Z a0 EL p s m meth c own name bytes maxL ret) (P : Pos Z EL n0 p l e R s m args below meth c T h k n) {Q1 : Value → Heap → Prop} {a : Addr} {K0 : String} (hd : decode bytes pc = .ok (.invokevirtual idx, 3)) (w1 : (Jvm.Cond.methodLink own idx y).before a0 Z = true) (w2 : (Jvm.Cond.declares y).before a0 Z = true) (ws : (Jvm.Cond.selects K0 y y).before a0 Z = true) (wm : (Jvm.Cond.instanceMethod y).before a0 Z = true) (w3 : (Jvm.Cond.initialized y.cls).before a0 Z = true) (w4 : (Jvm.Cond.code y ybytes ymax yret).before a0 Z = true)
    (hy : y.cls ≠ "java/lang/invoke/MethodHandle" ∧ y.cls ≠ "java/lang/invoke/VarHandle") (E : Exa Z h a K0) (argsL rest : List Value) (K : Con l Z EL n0 [] y ybytes ymax yret yrm (.ref a :: argsL).toArray h (Ret1 Q1)) (hfr : yrm.frames + 1 ≤ R.frames) (hlo : W + (ymax + 11) + yrm.locals ≤ R.locals) (pd : parseMethodDescriptor y.desc = some ⟨ps, rt⟩) (hps : argsL.length = ps.length) (hS : S = argsL.reverse ++ .ref a :: rest)
    (hL : L.length = maxL) (hW : (rest.map fun v => v.category).sum ≤ W) (hc : k + yrm.cells ≤ R.cells) (hl : n + yrm.slots ≤ R.slots) (hq : pc + 3 = pc')
    (r : ∀ T' h' v, Pos Z EL n0 p l e R s m args below meth c T' h' (k + yrm.cells) (n + yrm.slots) → Q1 v h' → Run p.tables e below F T' (fr m pc' L (v :: rest))) : Run p.tables e below F T (fr m pc L S) := by
  subst hq hS
  obtain ⟨vm0, k0, locs, X, eT, hS, hk, hC, hF, hO, hZ, hown⟩ := P.opened C
  obtain ⟨cq, kq, qa, -, qc⟩ := isOf hZ eT E
  obtain ⟨v, vm₁, ⟨U, Ls, kk, nn⟩, -, X', h2, hgr, ⟨Lc, ⟨⟨w, rfl, hQ⟩, hFL, hOU⟩, l1, l2, l3, hR⟩, st⟩ := X.virtualBackS C.1 (y := y) (z := y) hown (mvT hZ w1) (mvT hZ w2) (notFace_of_selects (args := #[]) (mvT hZ ws)) (mvT hZ ws) (mvT hZ wm) hy (backOfSH (W := W) (Q := fun v h' L => Ret1 Q1 v h' ∧ Fr n0 L ∧ Old Z n0 h') K hZ w4 w3 hfr hlo C.2.2.2.2.2.2.2.2 hC.1) qa qc (g := fr m pc L (argsL.reverse ++ .ref a :: rest)) rfl (by rw [C.2.2.2.2.1]; exact hL) (Steps.refl _) (argsL := argsL) (rest := rest) (lenOf pd hps) rfl (by show 2 * 0 + _ ≤ _; omega) (hb C.2.2.2.1 hd) (fun _ _ => ⟨rfl, eT, hc, hl⟩)
  dsimp only [Pt.U, Pt.locs, Pt.cells, Pt.slots] at X' h2 hgr l1 l2 l3 hR hQ hOU st
  subst l1 l2 l3
  exact Run.after st (r U U.heap w (Pos.back hS hk eT hC hF X' h2 hgr hFL hOU hR) hQ)
end Calls
/-! ### the end -/
theorem r_any (C : Ctx Z a0 EL p s m meth c own name bytes maxL ret) (P : Pos Z EL n0 p l e R s m args below meth c T h k n) {v : Option Value} {g : JFrame} (hv : ret = none → v = none) (hk : k ≤ R.cells) (hn : n ≤ R.slots) (q : Q v h)
    (st : ∀ {vm0 : Vm} {locs : List Loc} {fs : List Frame}, Stand p l e R (s.setVm vm0) m args below meth c T locs k n → (∀ (f : JFrame) (acts : List Action), f.method = m → f.locked = none → f.entered = [] → (doReturn e (T.setTop f) acts v).1 = T.setFrames fs) → Steps p.tables e below (T.setTop g) (T.setFrames fs)) :
    Run p.tables e below (Ends Z EL n0 R below Q s) T g := by
  have hlock : meth.locks = false := C.2.2.2.2.2.2.2.1
  obtain ⟨vm0, k0, locs, X, eT, hS, hk0, hC, hF, hO, hZ, hown⟩ := P.opened C
  obtain ⟨fs, hr, hrun, hended, b1, b2, b3, b4⟩ := X.leaveW (v := v) hS (by rw [eT]; exact hk0) (fun z => hv (by rw [← C.2.2.2.2.2.1]; exact z))
  refine ⟨T.setFrames fs, .returned v, st X hr, hrun, hended, v, locs, rfl, ⟨?_, hF, ?_⟩, ?_, b1, b2, b3, b4.mono hk hn⟩
  · show Q v T.heap; rw [eT]; exact q
  · show Old Z n0 T.heap; rw [eT]; exact hO
  · show CHr Z EL s.vm s.heap T.vm T.heap
    rw [eT]; exact hC.trans (CHv.at X hZ C.2.2.2.2.2.2.2.2 hC.1)
theorem r_void (C : Ctx Z a0 EL p s m meth c own name bytes maxL none) (P : Pos Z EL n0 p l e R s m args below meth c T h k n) (hd : decode bytes pc = .ok (.return_, 1)) (hk : k ≤ R.cells) (hn : n ≤ R.slots) (q : Q none h) :
    Run p.tables e below (Ends Z EL n0 R below Q s) T (fr m pc L []) :=
  r_any C P (fun _ => rfl) hk hn q fun X hr => X.returnOut C.1 C.2.2.2.2.2.1 (hb C.2.2.2.1 hd) hr
theorem r_int (C : Ctx Z a0 EL p s m meth c own name bytes maxL (some ty)) (P : Pos Z EL n0 p l e R s m args below meth c T h k n) {w : Int32} (hti : ty = .int ∨ ty = .boolean ∨ ty = .byte ∨ ty = .char ∨ ty = .short) (hnar : narrow ty (.int w) = .int w) (hd : decode bytes pc = .ok (.ireturn, 1)) (hk : k ≤ R.cells) (hn : n ≤ R.slots) (q : Q (some (.int w)) h) :
    Run p.tables e below (Ends Z EL n0 R below Q s) T (fr m pc L [.int w]) :=
  r_any C P (fun z => by cases z) hk hn q fun X hr => X.ireturnOut C.1 C.2.2.2.2.2.1 hnar hti (hb C.2.2.2.1 hd) hr
theorem r_ref (C : Ctx Z a0 EL p s m meth c own name bytes maxL (some ty)) (P : Pos Z EL n0 p l e R s m args below meth c T h k n) {w : Value} (hw : w.isRef = true) (ht : ty.isReference = true) (hd : decode bytes pc = .ok (.areturn, 1)) (hk : k ≤ R.cells) (hn : n ≤ R.slots) (q : Q (some w) h) :
    Run p.tables e below (Ends Z EL n0 R below Q s) T (fr m pc L [w]) :=
  r_any C P (fun z => by cases z) hk hn q fun X hr => X.areturnOut C.1 hw C.2.2.2.2.2.1 ht (hb C.2.2.2.1 hd) hr
end Walk
end Jvm.Own
namespace Jvm.Own
open Jvm Sem ClassFile Op Lib Jvm.Free Jvm.Stand Jvm.LawKit Jvm.RoadKit Bundle
section Walk2
variable {Z : State} {a0 : Array Value} {EL : List (String × Nat)} {n0 : Nat} {p : Program} {l : Launch} {e : Env} {R : Room} {s : State} {m : MethodId} {args : Array Value} {below : List Frame} {meth : Method} {c : Code} {own name : String} {bytes : ByteArray} {maxL : Nat} {ret : Option FieldType}
  {F : State → Outcome → Prop} {T : State} {h : Heap} {k n : Nat} {pc pc' : Nat} {L L' : List Slot} {S S' : List Value} {Q : Option Value → Heap → Prop}
theorem s_alen (C : Ctx Z a0 EL p s m meth c own name bytes maxL ret) (P : Pos Z EL n0 p l e R s m args below meth c T h k n) {b : Addr} {kb : ClassId} {ty : FieldType} {z : Int32} {vs : List Value} {d : Value} (hd : decode bytes pc = .ok (.arraylength, 1)) (A : Arv Z h b kb ty z vs d) (hq : pc + 1 = pc')
    (r : Run p.tables e below F T (fr m pc' L (.int z :: S))) : Run p.tables e below F T (fr m pc L (.ref b :: S)) := by
  subst hq
  obtain ⟨vm0, k0, locs, X, eT, hS, hk, hC, hF, hO, hZ, hown⟩ := P.opened C
  obtain ⟨cl, A1, -, q2, q3, -⟩ := A
  have e1 := len_of q2 q3
  refine Run.go (fun t q => X.arraylength C.1 (by rw [eT]; exact A1.1) (State.isArrayOf_alike hZ.alike A1.2.1) (g := fr m pc L (.ref b :: S)) rfl rfl (hb C.2.2.2.1 hd) t (by rw [e1]; exact q)) r
end Walk2
theorem fit_ref {v : Value} (hv : v.isRef = true) (t : String) : narrow (.object t) v = v ∧ fits (.object t) v = true := by
  rcases ref_cases hv with rfl | ⟨a, rfl⟩ <;> exact ⟨rfl, rfl⟩
theorem c16_idem (x : Int32) : c16 (c16 x) = c16 x := by
  show (x.toUInt32.toUInt16.toUInt32).toUInt16.toUInt32.toInt32 = _
  rw [UInt16.toUInt16_toUInt32]
theorem c16_nar (x : Int32) : narrow .char (.int (c16 x)) = .int (c16 x) := by
  show Value.int (c16 (c16 x)) = _
  rw [c16_idem]
end Jvm.Own
namespace Jvm.Own
open Jvm Sem ClassFile Op Lib Jvm.Free Jvm.Stand Jvm.LawKit Jvm.RoadKit Bundle
theorem up8 (cs : List Int32) (h : ∀ c ∈ cs, ¬ c < 0 ∧ ¬ (255 : Int32) < c) : ∀ c ∈ cs, ¬ c < 0 ∧ ¬ (65535 : Int32) < c := fun c hc => ⟨(h c hc).1, fun q => (h c hc).2 (by
  rw [Int32.lt_iff_toInt_lt] at q ⊢
  have e1 : (65535 : Int32).toInt = 65535 := rfl
  have e2 : (255 : Int32).toInt = 255 := rfl
  omega)⟩
/-- the low byte as a char: 0 to 255 -/
theorem lat (x : Int32) : ¬ c16 (x &&& (255 : Int32)) < 0 ∧ ¬ (255 : Int32) < c16 (x &&& (255 : Int32)) := by
  have t : ∀ k : Fin 256, ¬ c16 (Int32.ofNat k.val) < 0 ∧ ¬ (255 : Int32) < c16 (Int32.ofNat k.val) := by decide +kernel
  have h : (x &&& 255).toBitVec.toNat < 256 := by
    simp only [Int32.toBitVec_and, BitVec.toNat_and]
    exact Nat.lt_succ_of_le Nat.and_le_right
  have e : (x &&& 255) = Int32.ofNat (x &&& 255).toBitVec.toNat := by
    apply Int32.toBitVec_inj.mp
    show _ = BitVec.ofNat 32 _
    rw [BitVec.ofNat_toNat]; simp
  rw [e]
  exact t ⟨_, h⟩
theorem lat0 : ∀ c ∈ ([] : List Int32), ¬ c < 0 ∧ ¬ (255 : Int32) < c := fun _ h => by cases h
theorem latS {a : Int32} {r : List Int32} (h : ¬ a < 0 ∧ ¬ (255 : Int32) < a) (hr : ∀ c ∈ r, ¬ c < 0 ∧ ¬ (255 : Int32) < c) : ∀ c ∈ a :: r, ¬ c < 0 ∧ ¬ (255 : Int32) < c := fun c hc => (List.mem_cons.mp hc).elim (fun e => e ▸ h) (hr c)
theorem latv {x : Int32} : ¬ c16 (x &&& (255 : Int32)) < 0 ∧ ¬ (255 : Int32) < c16 (x &&& (255 : Int32)) := lat x
theorem le_ (a b : Nat) (h : Nat.ble a b = true) : a ≤ b := Nat.le_of_ble_eq_true h
end Jvm.Own
namespace Jvm.Own
open Jvm Sem ClassFile Op Lib Jvm.Free Jvm.Stand Jvm.LawKit Jvm.RoadKit Bundle
theorem ord_fld {s : State} {args : Array Value} {t : Term} {k : Addr} {C n d : String} {v : Int32} (ek : t.eval args s none [] s = some (.ref k)) (h : (Jvm.Cond.eq (.field t C n d) (.int v)).value args s none s [] = some true) : Fld s s.heap k C n d (.int v) := by
  have q := Cond.eq_int (Cond.before_iff.mpr h) rfl
  exact Fld.start (by simpa [Term.eval, ek] using q)
section Walk3
variable {Z : State} {a0 : Array Value} {EL : List (String × Nat)} {n0 : Nat} {p : Program} {l : Launch} {e : Env} {R : Room} {s : State} {m : MethodId} {args : Array Value} {below : List Frame} {meth : Method} {c : Code} {own name : String} {bytes : ByteArray} {maxL : Nat} {ret : Option FieldType}
  {F : State → Outcome → Prop} {T : State} {h : Heap} {k n : Nat} {pc pc' : Nat} {L L' : List Slot} {S S' : List Value} {Q : Option Value → Heap → Prop}
theorem s_instNo (C : Ctx Z a0 EL p s m meth c own name bytes maxL ret) (P : Pos Z EL n0 p l e R s m args below meth c T h k n) {idx : Nat} {K K' : String} {a : Addr} (hd : decode bytes pc = .ok (.instanceof idx, 3)) (w : (Jvm.Cond.classLink own idx K).before a0 Z = true) (E : Exa Z h a K') (I : ∃ c t, Z.vm.findClass K' = some c ∧ Z.vm.findClass K = some t ∧ Z.vm.assignable c t = false) (hq : pc + 3 = pc')
    (r : ∀ T', Pos Z EL n0 p l e R s m args below meth c T' h k n → Run p.tables e below F T' (fr m pc' L (.int 0 :: S))) : Run p.tables e below F T (fr m pc L (.ref a :: S)) := by
  subst hq
  obtain ⟨vm0, k0, locs, X, eT, hS, hk, hC, hF, hO, hZ, hown⟩ := P.opened C
  obtain ⟨T', X', e', st⟩ := instNo X C.1 hZ hown w eT E I (g := fr m pc L (.ref a :: S)) rfl rfl (hb C.2.2.2.1 hd)
  exact Run.go st (r T' ⟨vm0, k0, locs, X', e', hS, hk, hC, hF, hO⟩)
/-- a String is no object of another class that can be made -/
theorem noIns {K : String} {nf : Nat} (w : (Jvm.Cond.superclass sST "java/lang/Object").before a0 Z = true) (wo : (Jvm.Cond.noSuperclass "java/lang/Object").before a0 Z = true) (wi : (Jvm.Cond.instantiable K nf).before a0 Z = true) (h1 : sST ≠ K) (h2 : "java/lang/Object" ≠ K) : ∃ c t, Z.vm.findClass sST = some c ∧ Z.vm.findClass K = some t ∧ Z.vm.assignable c t = false := by
  obtain ⟨co, ko, o1, o2, o3, -, -⟩ := Cond.noSuperclass_spec wo
  obtain ⟨c, c1⟩ := found_sup w
  obtain ⟨p, k, kp, p1, p2, p3, p4, p5, -, -⟩ := Cond.superclass_spec c1 w
  obtain ⟨t, kt, i1, i2, i3, i4⟩ := Cond.instantiable_spec wi
  cases p1.symm.trans o1
  have n1 := ids_ne c1 i1 h1
  have n2 := ids_ne o1 i1 h2
  refine ⟨c, t, c1, i1, ?_⟩
  have hsub : ∀ fuel, Z.vm.isSubclassAux fuel c t = false := fun fuel => by
    cases fuel with
    | zero => rfl
    | succ f =>
      cases f with
      | zero => simp [Vm.isSubclassAux, n1, p2, p4]
      | succ g => simp [Vm.isSubclassAux, n1, p2, p4, n2, o2, o3]
  have hni : kt.isInterface = false := by
    exact (Bool.or_eq_false_iff.mp i4.1).1
  show Z.vm.assignableAux (255 + 1) c t = false
  simp [Vm.assignableAux, n1, p2, i2, p5, i3, hni, Vm.isSubclass, hsub]
end Walk3
end Jvm.Own
namespace Jvm.Own
theorem c16_and (x : Int32) : c16 (x &&& (255 : Int32)) = x &&& (255 : Int32) := by
  have t : ∀ k : Fin 256, c16 (Int32.ofNat k.val) = Int32.ofNat k.val := by decide +kernel
  have h : (x &&& 255).toBitVec.toNat < 256 := by
    simp only [Int32.toBitVec_and, BitVec.toNat_and]
    exact Nat.lt_succ_of_le Nat.and_le_right
  have e : (x &&& 255) = Int32.ofNat (x &&& 255).toBitVec.toNat := by
    apply Int32.toBitVec_inj.mp
    show _ = BitVec.ofNat 32 _
    rw [BitVec.ofNat_toNat]; simp
  rw [e]
  exact t ⟨_, h⟩
theorem c16_mask (a b : Int32) : c16 (a &&& (255 : Int32)) = c16 (b &&& (255 : Int32)) ↔ (a &&& (255 : Int32)) = (b &&& (255 : Int32)) := by rw [c16_and, c16_and]
end Jvm.Own
namespace Jvm.Own
open Jvm Sem ClassFile Op Lib Jvm.Free Jvm.Stand Jvm.LawKit Jvm.RoadKit Bundle
section Walk4
variable {Z : State} {a0 : Array Value} {EL : List (String × Nat)} {n0 : Nat} {p : Program} {l : Launch} {e : Env} {R : Room} {s : State} {m : MethodId} {args : Array Value} {below : List Frame} {meth : Method} {c : Code} {own name : String} {bytes : ByteArray} {maxL : Nat} {ret : Option FieldType}
  {F : State → Outcome → Prop} {T : State} {h : Heap} {k n : Nat} {pc pc' : Nat} {L L' : List Slot} {S S' : List Value} {Q : Option Value → Heap → Prop}
theorem s_lrem (C : Ctx Z a0 EL p s m meth c own name bytes maxL ret) (P : Pos Z EL n0 p l e R s m args below meth c T h k n) {x y : Int64} (hd : decode bytes pc = .ok (.lrem, 1)) (hy : y ≠ 0) (hq : pc + 1 = pc')
    (r : Run p.tables e below F T (fr m pc' L (.long (x - (x / y) * y) :: S))) : Run p.tables e below F T (fr m pc L (.long y :: .long x :: S)) := by
  subst hq
  obtain ⟨vm0, k0, locs, X, -⟩ := P
  exact Run.go (fun t z => XT.lrem X.here C.1 rfl (hb C.2.2.2.1 hd) rfl hy z) r
theorem s_ldcJ (C : Ctx Z a0 EL p s m meth c own name bytes maxL ret) (P : Pos Z EL n0 p l e R s m args below meth c T h k n) {idx : Nat} {v : Int64} (hd : decode bytes pc = .ok (.ldc2_w idx, 3)) (w : (Jvm.Cond.constantLong own idx v).before a0 Z = true) (hq : pc + 3 = pc')
    (r : Run p.tables e below F T (fr m pc' L (.long v :: S))) : Run p.tables e below F T (fr m pc L S) := by
  subst hq
  obtain ⟨vm0, k0, locs, X, eT, hS, hk, hC, hF, hO, hZ, hown⟩ := P.opened C
  exact Run.go (fun t z => X.ldc2J C.1 hown (mv hZ w) rfl (hb C.2.2.2.1 hd) z) r
theorem s_ldcI (C : Ctx Z a0 EL p s m meth c own name bytes maxL ret) (P : Pos Z EL n0 p l e R s m args below meth c T h k n) {idx : Nat} {v : Int32} (hd : decode bytes pc = .ok (.ldc idx, 2)) (w : (Jvm.Cond.constant own idx v).before a0 Z = true) (hq : pc + 2 = pc')
    (r : Run p.tables e below F T (fr m pc' L (.int v :: S))) : Run p.tables e below F T (fr m pc L S) := by
  subst hq
  obtain ⟨vm0, k0, locs, X, eT, hS, hk, hC, hF, hO, hZ, hown⟩ := P.opened C
  exact Run.go (fun t z => X.ldcI C.1 hown (mv hZ w) rfl (hb C.2.2.2.1 hd) z) r
end Walk4
/-- a long's low byte as a char -/
theorem latJ {x : Int64} : ¬ c16 ((x &&& (255 : Int64)).toInt32) < 0 ∧ ¬ (255 : Int32) < c16 ((x &&& (255 : Int64)).toInt32) := by
  have t : ∀ k : Fin 256, ¬ c16 ((Int64.ofNat k.val).toInt32) < 0 ∧ ¬ (255 : Int32) < c16 ((Int64.ofNat k.val).toInt32) := by decide +kernel
  have h : (x &&& 255).toBitVec.toNat < 256 := by
    simp only [Int64.toBitVec_and, BitVec.toNat_and]
    exact Nat.lt_succ_of_le Nat.and_le_right
  have e : (x &&& 255) = Int64.ofNat (x &&& 255).toBitVec.toNat := by
    apply Int64.toBitVec_inj.mp
    show _ = BitVec.ofNat 64 _
    rw [BitVec.ofNat_toNat]; simp
  rw [e]
  exact t ⟨_, h⟩
end Jvm.Own
namespace Jvm.Own
open Jvm Sem ClassFile Op Lib Jvm.Free Jvm.Stand Jvm.LawKit Jvm.RoadKit Bundle
section Walk5
variable {Z : State} {a0 : Array Value} {EL : List (String × Nat)} {n0 : Nat} {p : Program} {l : Launch} {e : Env} {R : Room} {s : State} {m : MethodId} {args : Array Value} {below : List Frame} {meth : Method} {c : Code} {own name : String} {bytes : ByteArray} {maxL : Nat} {ret : Option FieldType}
  {F : State → Outcome → Prop} {T : State} {h : Heap} {k n : Nat} {pc pc' : Nat} {L L' : List Slot} {S S' : List Value} {Q : Option Value → Heap → Prop}
/-- ldc of a constant that nobody reads -/
theorem s_ldcO (C : Ctx Z a0 EL p s m meth c own name bytes maxL ret) (P : Pos Z EL n0 p l e R s m args below meth c T h k n) {idx len : Nat} {text : String} (hd : decode bytes pc = .ok (.ldc idx, 2)) (w : (Jvm.Cond.stringLink own idx text).before a0 Z = true) (wS : ∀ a ∈ Bundle.stringAtoms, a.before a0 Z = true) (hn : 4 * text.toList.length ≤ len) (hbig : len ≤ 536870912) (hc : k + 2 ≤ R.cells) (hl : n + (len + 4) ≤ R.slots) (hq : pc + 2 = pc')
    (r : ∀ T' h' a, Pos Z EL n0 p l e R s m args below meth c T' h' (k + 2) (n + (len + 4)) → Ext h h' → Run p.tables e below F T' (fr m pc' L (.ref a :: S))) : Run p.tables e below F T (fr m pc L S) := by
  subst hq
  obtain ⟨vm0, k0, locs, X, eT, hS, hk, hC, hF, hO, hZ, hown⟩ := P.opened C
  obtain ⟨a, T', h', k1, X', e', E, hS', hk', hZ', hown', hC', hLit, st⟩ := ldcOH X C.1 hZ hown w wS eT hS hk C.2.2.2.2.2.2.2.2 hC.1 (g := fr m pc L S) rfl (hb C.2.2.2.1 hd) hn hbig hc hl
  exact Run.go st (r T' h' a ⟨T'.vm, k1, locs, X', e', hS', hk', hC.trans hC', hF, hO.ext E⟩ E)
end Walk5
end Jvm.Own
namespace Jvm.Own
open Jvm Sem ClassFile Op Lib Jvm.Free Jvm.Stand Jvm.LawKit Jvm.RoadKit Bundle
theorem ne_len {a b : List Int32} (h : a.length ≠ b.length) : ¬ a = b := fun e => h (by rw [e])
theorem ne4 {a b c d a' b' c' d' : Int32} : ([a, b, c, d] = [a', b', c', d']) ↔ a = a' ∧ b = b' ∧ c = c' ∧ d = d' := by simp
theorem b8_and {x : Int32} (h : fits .byte (.int x) = true) : (x &&& (255 : Int32)).toInt8.toInt32 = x := by
  have t : ∀ k : Fin 256, ((Int32.ofInt ((k.val : Int) - 128)) &&& (255 : Int32)).toInt8.toInt32 = Int32.ofInt ((k.val : Int) - 128) := by decide +kernel
  obtain ⟨h1, h2⟩ := rng_byte h
  rw [Int32.lt_iff_toInt_lt] at h1 h2
  have e1 : (-128 : Int32).toInt = -128 := rfl
  have e2 : (127 : Int32).toInt = 127 := rfl
  rw [e1] at h1; rw [e2] at h2
  have q := t ⟨(x.toInt + 128).toNat, by omega⟩
  have e : (((x.toInt + 128).toNat : Nat) : Int) - 128 = x.toInt := by omega
  simp only [e, Int32.ofInt_toInt] at q
  exact q
theorem len_eval {s : State} {args : Array Value} {fv : Term} {b : Addr} {cl : Cell} (hev : fv.eval args s none [] s = some (.ref b)) (h1 : s.arrayAt? b = some cl) (h2 : cl.slots.size < 2 ^ 31) : (Term.length fv).eval args s none [] s = some (.int (Int32.ofNat cl.slots.size)) := by
  simp [Term.eval, hev, h1, h2]
theorem ref_fld {s : State} {args : Array Value} {t : Term} {k : Addr} {C n d : String} {v : Value} (ek : t.eval args s none [] s = some (.ref k)) (h : (Term.field t C n d).eval args s none [] s = some v) : Fld s s.heap k C n d v := Fld.start (by simpa [Term.eval, ek] using h)
/-- the start of what is known of a String of the start's heap: its cell, its array, of n components -/
theorem str_cells {s : State} {args : Array Value} {t : Term} {u : Addr} {n : Nat} (ev : t.eval args s none [] s = some (.ref u)) (hc : (Jvm.Cond.eq (.field t sST "coder" "B") (.int 0)).value args s none s [] = some true) (ha : (Jvm.Cond.arrayOf (.field t sST "value" "[B") .byte).value args s none s [] = some true) (hl : (Jvm.Cond.eq (.length (.field t sST "value" "[B")) (.int (Int32.ofNat n))).value args s none s [] = some true) (hn : n ≤ 4000) :
    Fld s s.heap u sST "coder" "B" (.int 0) ∧ ∃ b cl, Fld s s.heap u sST "value" "[B" (.ref b) ∧ Arr s s.heap b cl .byte ∧ cl.slots.size = n ∧ ∀ (j : Nat) (v : Int32), j < n → (Jvm.Cond.eq (.elem (.field t sST "value" "[B") (.int (Int32.ofNat j))) (.int v)).value args s none s [] = some true → cl.slots[j]? = some (.int v) := by
  obtain ⟨b, eb⟩ := arr_v ha
  have FV : Fld s s.heap u sST "value" "[B" (.ref b) := Fld.start (by simpa [Term.eval, ev] using eb)
  obtain ⟨cl, A⟩ := Arr.start eb ha
  have el := Cond.eq_int (Cond.before_iff.mpr hl) rfl
  obtain ⟨sd, SA, hev, harrAt, -⟩ := Term.length_spec el
  have h31 := SBG.length_lt hev harrAt el
  cases eb.symm.trans hev
  have e2 : s.arrayAt? b = some cl := A.fin (Vm.Alike.refl _)
  cases e2.symm.trans harrAt
  have hsz : cl.slots.size = n := by
    have e : (Term.length (.field t sST "value" "[B")).eval args s none [] s = some (.int (Int32.ofNat cl.slots.size)) := len_eval hev harrAt h31
    have h2 : Int32.ofNat cl.slots.size = Int32.ofNat n := by simpa using Option.some.inj (e.symm.trans el)
    have := congrArg Int32.toInt h2
    rw [Int32.toInt_ofNat_small h31, Int32.toInt_ofNat_small (by omega)] at this; omega
  refine ⟨ord_fld ev hc, b, cl, FV, A, hsz, fun j v hj he => ?_⟩
  have e1 := Cond.eq_int (Cond.before_iff.mpr he) rfl
  rw [SBG.elem_at (ix := .int (Int32.ofNat j)) hev harrAt (by omega) h31 rfl] at e1; exact e1
theorem str_of {s : State} {u b : Addr} {cl : Cell} {cs : List Int32} (X : Exa s s.heap u sST) (C : Fld s s.heap u sST "coder" "B" (.int 0)) (V : Fld s s.heap u sST "value" "[B" (.ref b)) (A : Arr s s.heap b cl .byte) (hsz : cl.slots.size = cs.length) (hlen : cs.length ≤ 4000) (hcs : ∀ c ∈ cs, ¬ c < 0 ∧ ¬ (255 : Int32) < c) (H : ∀ (j : Nat), j < cs.length → cl.slots[j]? = some (.int (cs.getD j 0).toInt8.toInt32)) : Str s s.heap u cs := by
  have e1 : (Int32.ofNat cs.length).toInt = cs.length := len_toInt (by omega)
  have hg : ∀ (j : Nat) (hj : j < cs.length), ((cs.map fun c => c.toInt8.toInt32).map Value.int).getD j (.int 0) = .int (cs.getD j 0).toInt8.toInt32 := fun j hj => by simp [List.getD_eq_getElem?_getD, hj]
  refine ⟨hlen, hcs, X, C, b, cl.cls, V, cl, A, rfl, by rw [hsz]; simp only [Int32.toNatClampNeg, e1]; rfl, by rw [Int32.lt_iff_toInt_lt, e1]; show ¬ (cs.length : Int) < 0; omega, fun j hj => ?_, fun j hj => ?_⟩
  · rw [hg j (by omega)]; exact H j (by omega)
  · rw [hg j (by omega)]; exact fits_nar_byte _
def byAt (cl : Cell) (j : Nat) : Int32 := match cl.slots[j]? with | some (.int x) => x | _ => 0
theorem str_some {s : State} {args : Array Value} {t : Term} {u : Addr} {n : Nat} (hf : Fit s) (ev : t.eval args s none [] s = some (.ref u)) (hx : (Jvm.Cond.exactly t sST).value args s none s [] = some true) (hc : (Jvm.Cond.eq (.field t sST "coder" "B") (.int 0)).value args s none s [] = some true) (ha : (Jvm.Cond.arrayOf (.field t sST "value" "[B") .byte).value args s none s [] = some true) (hl : (Jvm.Cond.eq (.length (.field t sST "value" "[B")) (.int (Int32.ofNat n))).value args s none s [] = some true) (hn : n ≤ 4000) :
    ∃ cs : List Int32, cs.length = n ∧ Str s s.heap u cs := by
  obtain ⟨C, b, cl, V, A, hsz, -⟩ := str_cells ev hc ha hl hn
  have hat : ∀ j, j < n → cl.slots[j]? = some (.int (byAt cl j)) ∧ fits .byte (.int (byAt cl j)) = true := fun j hj => by
    have q : (Nat.toInt32 j).toNatClampNeg = j := by simp only [Int32.toNatClampNeg, len_toInt (show j < 2 ^ 31 by omega)]; rfl
    obtain ⟨v, h1, h2⟩ := elem_fit (j := Nat.toInt32 j) hf A (idx_in (by omega) (by omega))
    rw [q] at h1
    obtain ⟨x, rfl⟩ := fit_I h2 (by simp)
    have e : byAt cl j = x := by unfold byAt; rw [h1]
    rw [e]; exact ⟨h1, h2⟩
  refine ⟨(List.range n).map fun j => byAt cl j &&& (255 : Int32), by simp, str_of (Exa.start ev hx) C V A (by simpa using hsz) (by simpa using hn) (fun c hc => ?_) (fun j hj => ?_)⟩
  · obtain ⟨j, -, rfl⟩ := List.mem_map.mp hc
    have := lat (byAt cl j)
    rw [c16_and] at this; exact this
  · have hj' : j < n := by simpa using hj
    obtain ⟨h1, h2⟩ := hat j hj'
    have e : ((List.range n).map fun j => byAt cl j &&& (255 : Int32)).getD j 0 = byAt cl j &&& (255 : Int32) := by simp [List.getD_eq_getElem?_getD, hj']
    rw [h1, e, b8_and h2]
end Jvm.Own
/- laws to paste: Road.backV, Road.eqW, Road.codOf (cut by pick.py; bodies as the Statement names them) -/
namespace Jvm.Pilot.@@N@@
namespace StrChars
open Jvm Sem ClassFile Op Lib Jvm.Stand Jvm.Free.XT Jvm.Free.ALB Jvm.Free.JM Jvm.Free
open Jvm.Lib.Cold (StaticIs)
/-- a char array whose places are chars -/
def Ch (a : Addr) (A : Cell) (U : State) : Prop := Arr .char a A U ∧ Typed .char A
theorem Ch.mv {a : Addr} {A : Cell} {U U' : State} (h : Ch a A U) (hal : U.vm.Alike U'.vm) (hh : U'.heap = U.heap) : Ch a A U' := ⟨h.1.mv hal hh, h.2⟩
theorem Ch.keep {a : Addr} {A : Cell} {U U' : State} (h : Ch a A U) (hal : U.vm.Alike U'.vm) (hk : U'.heap[a]? = some A) : Ch a A U' := ⟨h.1.keep hal hk, h.2⟩
/-- what place i of a char[]'s cell holds -/
def cv (A : Cell) (i : Nat) : Int32 := match A.slots[i]? with | some (.int x) => x | _ => 0
theorem Ch.get {a : Addr} {A : Cell} {U : State} (h : Ch a A U) {i : Nat} (hi : i < A.slots.size) : A.slots[i]? = some (.int (cv A i)) := by
  have e := Array.getElem?_eq_getElem hi
  have f := h.2 i _ e
  unfold cv; rw [e]
  generalize A.slots[i] = v at f
  cases v <;> simp [fits] at f ⊢
/-- the byte that i2b leaves of a char -/
def lo8 (x : Int32) : Int32 := x.toInt8.toInt32
theorem fits_lo8 (y : Int32) : fits .byte (.int (lo8 y)) = true := by
  have h1 := y.toInt8.le_toInt
  have h2 := y.toInt8.toInt_lt
  simp only [lo8, fits, Bool.and_eq_true, decide_eq_true_eq, Int32.le_iff_toInt_le, Int8.toInt_toInt32, show (-128 : Int32).toInt = -128 from by decide, show (127 : Int32).toInt = 127 from by decide]
  omega
/-- A' is A but that each place j of lo .. hi - 1 holds f j -/
def Laid (A A' : Cell) (lo hi : Nat) (f : Nat → Value) : Prop := A'.cls = A.cls ∧ A'.vm = A.vm ∧ A'.slots.size = A.slots.size ∧ ∀ i, A'.slots[i]? = if lo ≤ i ∧ i < hi then some (f i) else A.slots[i]?
theorem Laid.zero (A : Cell) (lo : Nat) (f : Nat → Value) : Laid A A lo (lo + 0) f := ⟨rfl, rfl, rfl, fun i => by rw [if_neg (by omega)]⟩
theorem Laid.step {A Ak : Cell} {lo k : Nat} {f : Nat → Value} {v : Value} (h : Laid A Ak lo k f) (hlo : lo ≤ k) (hk : k < Ak.slots.size) (hv : v = f k) : Laid A (Ak.setSlot k v) lo (k + 1) f := by
  refine ⟨h.1, h.2.1, by simpa [Cell.setSlot] using h.2.2.1, fun i => ?_⟩
  by_cases e : k = i
  · subst e; rw [Cell.slots_setSlot_self v hk, if_pos (by omega), hv]
  · rw [Cell.slots_setSlot_ne v e, h.2.2.2 i]
    by_cases q : lo ≤ i ∧ i < k
    · rw [if_pos q, if_pos (by omega)]
    · rw [if_neg q, if_neg (by omega)]
def U16 : String := "java/lang/StringUTF16"
namespace Cmp5
def yN : MethodName := ⟨"java/lang/StringUTF16", "compress", "([CI[BII)I"⟩
abbrev yB : ByteArray := jdk_52_method_21_code
theorem d0 : decode yB 0 = .ok (.iconst 0, 1) := by decide +kernel
theorem d1 : decode yB 1 = .ok (.istore 5, 2) := by decide +kernel
theorem d3 : decode yB 3 = .ok (.iload 5, 2) := by decide +kernel
theorem d5 : decode yB 5 = .ok (.iload 4, 2) := by decide +kernel
theorem d7 : decode yB 7 = .ok (.if_icmp (.ge) 37, 3) := by decide +kernel
theorem d10 : decode yB 10 = .ok (.aload_n 0, 1) := by decide +kernel
theorem d11 : decode yB 11 = .ok (.iload_n 1, 1) := by decide +kernel
theorem d12 : decode yB 12 = .ok (.caload, 1) := by decide +kernel
theorem d13 : decode yB 13 = .ok (.istore 6, 2) := by decide +kernel
theorem d15 : decode yB 15 = .ok (.iload 6, 2) := by decide +kernel
theorem d17 : decode yB 17 = .ok (.sipush 255, 3) := by decide +kernel
theorem d20 : decode yB 20 = .ok (.if_icmp (.le) 6, 3) := by decide +kernel
theorem d26 : decode yB 26 = .ok (.aload_n 2, 1) := by decide +kernel
theorem d27 : decode yB 27 = .ok (.iload_n 3, 1) := by decide +kernel
theorem d28 : decode yB 28 = .ok (.iload 6, 2) := by decide +kernel
theorem d30 : decode yB 30 = .ok (.i2b, 1) := by decide +kernel
theorem d31 : decode yB 31 = .ok (.bastore, 1) := by decide +kernel
theorem d32 : decode yB 32 = .ok (.iinc 1 1, 3) := by decide +kernel
theorem d35 : decode yB 35 = .ok (.iinc 3 1, 3) := by decide +kernel
theorem d38 : decode yB 38 = .ok (.iinc 5 1, 3) := by decide +kernel
theorem d41 : decode yB 41 = .ok (.goto (-38), 3) := by decide +kernel
theorem d44 : decode yB 44 = .ok (.iload 4, 2) := by decide +kernel
theorem d46 : decode yB 46 = .ok (.ireturn, 1) := by decide +kernel
def site : List Cond := []
def tab : Cond := tabOf yN yB 7 (some .int) site
def P (b : Addr) (A : Cell) (d : Addr) (B : Cell) (o q len : Nat) (args : Array Value) (s : State) : Prop := args = #[.ref b, .int (Int32.ofNat o), .ref d, .int (Int32.ofNat q), .int (Int32.ofNat len)] ∧ Ch b A s ∧ Arr .byte d B s ∧ b ≠ d ∧ o + len ≤ A.slots.size ∧ q + len ≤ B.slots.size ∧ ∀ i, i < len → ¬ 255 < cv A (o + i)
def E (b : Addr) (A : Cell) (d : Addr) (B : Cell) (o q len : Nat) (r : Option Value) (s u : State) : Prop := r = some (.int (Int32.ofNat len)) ∧ ∃ B', Put d B' s u ∧ Laid B B' q (q + len) (fun j => Value.int (lo8 (cv A (o + (j - q)))))
/-- no char of the range above 255: len; the places written hold each char's low byte -/
theorem law (l : Launch) (b : Addr) (A : Cell) (d : Addr) (B : Cell) (o q len : Nat) : Law l yN 5 5 0 0 yB 7 (some .int) site (P b A d B o q len) (E b A d B o q len) (copyLocs d q len) 0 0 := by
  refine Law.of_walk (plainFor_of_name (by decide +kernel)) (by decide +kernel) (by decide +kernel) (by decide) (fun _ _ h => by rw [h.1]; rfl) (fun _ U U' hal hh h => ⟨h.1, h.2.1.mv hal hh, h.2.2.1.mv hal hh, h.2.2.2⟩) (fun r U U' V V' h1 hal h2 h => ⟨h.1, h.2.elim fun B' q => ⟨B', q.1.mv h1 h2, q.2⟩⟩) ?_
  intro p e s m args below meth c s₁ X0 hexec hbytes hml hret hlk hnm hown hh0 W hP
  obtain ⟨rfl, hA, hB, hne, l1, l2, hp⟩ := hP
  have c1 : Steps p.tables e below (s₁.setTop (entryFrame m #[.ref b, .int (Int32.ofNat o), .ref d, .int (Int32.ofNat q), .int (Int32.ofNat len)] 7)) (s₁.setTop (mkF m 0 #[.val (.ref b), .val (.int (Int32.ofNat o)), .val (.ref d), .val (.int (Int32.ofNat q)), .val (.int (Int32.ofNat len)), .unset, .unset] [])) := entry rfl
  have hA0 := hA.1.mv X0.warmed.alike hh0
  have hB0 := hB.mv X0.warmed.alike hh0
  have a31 := hA.1.2.2.2
  have c2 : Steps p.tables e below (s₁.setTop (entryFrame m #[.ref b, .int (Int32.ofNat o), .ref d, .int (Int32.ofNat q), .int (Int32.ofNat len)] 7)) (s₁.setTop (mkF m 3 #[.val (.ref b), .val (.int (Int32.ofNat o)), .val (.ref d), .val (.int (Int32.ofNat q)), .val (.int (Int32.ofNat len)), .val (.int 0), .unset] [])) := c1.trans (by
    refine iconstV X0.here hexec rfl 0 (hb hbytes d0) (by decide) ?_
    refine XS.istore X0.here hexec rfl (hb hbytes d1) rfl rfl ?_
    exact Steps.refl _)
  have loop : ∀ (r i : Nat), i + r = len → ∀ (z : Slot), (z = .unset ∨ ∃ w, z = .val w ∧ w.category = 1) → ∀ (Tl : State) (Bk : Cell), Stand p l e { frames := 0, locals := 0, cells := 0, slots := 0 } s m #[.ref b, .int (Int32.ofNat o), .ref d, .int (Int32.ofNat q), .int (Int32.ofNat len)] below meth c Tl ([] ++ copyLocs d q i) 0 0 → Put d Bk s₁ Tl → Laid B Bk q (q + i) (fun j => Value.int (lo8 (cv A (o + (j - q))))) →
      Steps p.tables e below (s₁.setTop (entryFrame m #[.ref b, .int (Int32.ofNat o), .ref d, .int (Int32.ofNat q), .int (Int32.ofNat len)] 7)) (Tl.setTop (mkF m 3 #[.val (.ref b), .val (.int (Int32.ofNat (o + i))), .val (.ref d), .val (.int (Int32.ofNat (q + i))), .val (.int (Int32.ofNat len)), .val (.int (Int32.ofNat i)), z] [])) → ∃ (T' : State) (B' : Cell) (z' : Slot), Stand p l e { frames := 0, locals := 0, cells := 0, slots := 0 } s m #[.ref b, .int (Int32.ofNat o), .ref d, .int (Int32.ofNat q), .int (Int32.ofNat len)] below meth c T' ([] ++ copyLocs d q len) 0 0 ∧ Put d B' s₁ T' ∧ Laid B B' q (q + len) (fun j => Value.int (lo8 (cv A (o + (j - q))))) ∧
      Steps p.tables e below (s₁.setTop (entryFrame m #[.ref b, .int (Int32.ofNat o), .ref d, .int (Int32.ofNat q), .int (Int32.ofNat len)] 7)) (T'.setTop (mkF m 3 #[.val (.ref b), .val (.int (Int32.ofNat (o + len))), .val (.ref d), .val (.int (Int32.ofNat (q + len))), .val (.int (Int32.ofNat len)), .val (.int (Int32.ofNat len)), z'] [])) := by
    intro r
    induction r with
    | zero =>
      intro i hi z hz Tl Bk Xl pl fl cl
      have hil : i = len := by omega
      rw [hil] at Xl fl cl
      exact ⟨Tl, Bk, z, Xl, pl, fl, cl⟩
    | succ r ih =>
      intro i hi z hz Tl Bk Xl pl fl cl
      have all := X0.warmed.alike.symm.trans Xl.warmed.alike
      have hAl := hA0.keep all (pl.other hne hA0.1)
      have hBk := hB0.like all pl.1 fl.1 fl.2.1 fl.2.2.1
      have hlt : q + i < Bk.slots.size := by rw [fl.2.2.1]; omega
      have c3 : Steps p.tables e below (s₁.setTop (entryFrame m #[.ref b, .int (Int32.ofNat o), .ref d, .int (Int32.ofNat q), .int (Int32.ofNat len)] 7)) (Tl.setTop (mkF m 12 #[.val (.ref b), .val (.int (Int32.ofNat (o + i))), .val (.ref d), .val (.int (Int32.ofNat (q + i))), .val (.int (Int32.ofNat len)), .val (.int (Int32.ofNat i)), z] [.int (Int32.ofNat (o + i)), .ref b])) := cl.trans (by
        refine XS.iload Xl.here hexec rfl (hb hbytes d3) rfl ?_
        refine XS.iload Xl.here hexec rfl (hb hbytes d5) rfl ?_
        refine XS.icmpNo Xl.here hexec rfl (hb hbytes d7) rfl (ii_ge_f (lt32 (by omega) (by omega))) ?_
        refine XS.aloadN Xl.here hexec rfl (hb hbytes d10) rfl rfl ?_
        refine XS.iloadN Xl.here hexec rfl (hb hbytes d11) rfl ?_
        exact Steps.refl _)
      have c4 : Steps p.tables e below (s₁.setTop (entryFrame m #[.ref b, .int (Int32.ofNat o), .ref d, .int (Int32.ofNat q), .int (Int32.ofNat len)] 7)) (Tl.setTop (mkF m 13 #[.val (.ref b), .val (.int (Int32.ofNat (o + i))), .val (.ref d), .val (.int (Int32.ofNat (q + i))), .val (.int (Int32.ofNat len)), .val (.int (Int32.ofNat i)), z] [.int (cv A (o + i))])) := c3.trans (by
        refine Xl.aget hexec hAl rfl (hA.get (i := o + i) (by omega)) rfl rfl (hb hbytes d12) ?_
        exact Steps.refl _)
      have c5 : Steps p.tables e below (s₁.setTop (entryFrame m #[.ref b, .int (Int32.ofNat o), .ref d, .int (Int32.ofNat q), .int (Int32.ofNat len)] 7)) (Tl.setTop (mkF m 15 #[.val (.ref b), .val (.int (Int32.ofNat (o + i))), .val (.ref d), .val (.int (Int32.ofNat (q + i))), .val (.int (Int32.ofNat len)), .val (.int (Int32.ofNat i)), .val (.int (cv A (o + i)))] [])) := c4.trans (by
        refine XS.istoreS Xl.here hexec rfl (hb hbytes d13) rfl rfl hz ?_
        exact Steps.refl _)
      have c6 : Steps p.tables e below (s₁.setTop (entryFrame m #[.ref b, .int (Int32.ofNat o), .ref d, .int (Int32.ofNat q), .int (Int32.ofNat len)] 7)) (Tl.setTop (mkF m 31 #[.val (.ref b), .val (.int (Int32.ofNat (o + i))), .val (.ref d), .val (.int (Int32.ofNat (q + i))), .val (.int (Int32.ofNat len)), .val (.int (Int32.ofNat i)), .val (.int (cv A (o + i)))] [.int (lo8 (cv A (o + i))), .int (Int32.ofNat (q + i)), .ref d])) := c5.trans (by
        refine XS.iload Xl.here hexec rfl (hb hbytes d15) rfl ?_
        refine sipushV Xl.here hexec rfl 255 (hb hbytes d17) (by decide) ?_
        refine XS.icmpYes Xl.here hexec rfl (pc0 := 20) rfl (hb hbytes d20) rfl (ii_le_t (hp i (by omega))) (by decide) rfl ?_
        refine XS.aloadN Xl.here hexec rfl (hb hbytes d26) rfl rfl ?_
        refine XS.iloadN Xl.here hexec rfl (hb hbytes d27) rfl ?_
        refine XS.iload Xl.here hexec rfl (hb hbytes d28) rfl ?_
        refine i2b Xl.here hexec rfl (hb hbytes d30) rfl ?_
        exact Steps.refl _)
      obtain ⟨T7, X7, p7, st7⟩ := Xl.aput hexec hBk rfl hlt rfl (fits_lo8 (cv A (o + i))) (g := (mkF m 31 #[.val (.ref b), .val (.int (Int32.ofNat (o + i))), .val (.ref d), .val (.int (Int32.ofNat (q + i))), .val (.int (Int32.ofNat len)), .val (.int (Int32.ofNat i)), .val (.int (cv A (o + i)))] [.int (lo8 (cv A (o + i))), .int (Int32.ofNat (q + i)), .ref d])) rfl (rest := []) rfl (hb hbytes d31)
      have c8 : Steps p.tables e below (s₁.setTop (entryFrame m #[.ref b, .int (Int32.ofNat o), .ref d, .int (Int32.ofNat q), .int (Int32.ofNat len)] 7)) (T7.setTop (mkF m 32 #[.val (.ref b), .val (.int (Int32.ofNat (o + i))), .val (.ref d), .val (.int (Int32.ofNat (q + i))), .val (.int (Int32.ofNat len)), .val (.int (Int32.ofNat i)), .val (.int (cv A (o + i)))] [])) := c6.trans (st7 _ (Steps.refl _))
      have c9 : Steps p.tables e below (s₁.setTop (entryFrame m #[.ref b, .int (Int32.ofNat o), .ref d, .int (Int32.ofNat q), .int (Int32.ofNat len)] 7)) (T7.setTop (mkF m 3 #[.val (.ref b), .val (.int (Int32.ofNat (o + i) + 1)), .val (.ref d), .val (.int (Int32.ofNat (q + i) + 1)), .val (.int (Int32.ofNat len)), .val (.int (Int32.ofNat i + 1)), .val (.int (cv A (o + i)))] [])) := c8.trans (by
        refine iincV X7.here hexec rfl 1 (hb hbytes d32) (by decide) rfl rfl ?_
        refine iincV X7.here hexec rfl 1 (hb hbytes d35) (by decide) rfl rfl ?_
        refine iincV X7.here hexec rfl 1 (hb hbytes d38) (by decide) rfl rfl ?_
        refine XS.goto X7.here hexec rfl (pc0 := 41) rfl (hb hbytes d41) (by decide) rfl ?_
        exact Steps.refl _)
      have c10 : Steps p.tables e below (s₁.setTop (entryFrame m #[.ref b, .int (Int32.ofNat o), .ref d, .int (Int32.ofNat q), .int (Int32.ofNat len)] 7)) (T7.setTop (mkF m 3 #[.val (.ref b), .val (.int (Int32.ofNat (o + (i + 1)))), .val (.ref d), .val (.int (Int32.ofNat (q + (i + 1)))), .val (.int (Int32.ofNat len)), .val (.int (Int32.ofNat (i + 1))), .val (.int (cv A (o + i)))] [])) := by
        have := c9
        rw [succ32, succ32, succ32] at this
        exact this
      exact ih (i + 1) (by omega) _ (Or.inr ⟨_, rfl, rfl⟩) T7 _ (by rw [copyLocs_step, ← List.append_assoc]; exact X7) (pl.trans p7) (fl.step (by omega) hlt (by simp)) c10
  obtain ⟨T9, B9, z9, X9, p9, f9, g9⟩ := loop len 0 (by omega) .unset (Or.inl rfl) s₁ B (by simpa [copyLocs] using X0) ⟨hB0.1, fun _ _ => rfl, rfl⟩ (Laid.zero _ _ _) c2
  have c11 : Steps p.tables e below (s₁.setTop (entryFrame m #[.ref b, .int (Int32.ofNat o), .ref d, .int (Int32.ofNat q), .int (Int32.ofNat len)] 7)) (T9.setTop (mkF m 46 #[.val (.ref b), .val (.int (Int32.ofNat (o + len))), .val (.ref d), .val (.int (Int32.ofNat (q + len))), .val (.int (Int32.ofNat len)), .val (.int (Int32.ofNat len)), z9] [.int (Int32.ofNat len)])) := g9.trans (by
    refine XS.iload X9.here hexec rfl (hb hbytes d3) rfl ?_
    refine XS.iload X9.here hexec rfl (hb hbytes d5) rfl ?_
    refine XS.icmpYes X9.here hexec rfl (pc0 := 7) rfl (hb hbytes d7) rfl (ii_ge_t (nlt32 (by omega) (Nat.le_refl _))) (by decide) rfl ?_
    refine XS.iload X9.here hexec rfl (hb hbytes d44) rfl ?_
    exact Steps.refl _)
  exact ⟨T9, some (.int (Int32.ofNat len)), _, _, _, X9, by simp, rfl, rfl, (fun h => by cases h), ⟨rfl, B9, p9.from hh0, f9⟩, fun fs hl => c11.trans (X9.ireturnOut hexec hret rfl (Or.inl rfl) (hb hbytes d46) hl)⟩
end Cmp5
namespace Cmp3
def yN : MethodName := ⟨"java/lang/StringUTF16", "compress", "([CII)[B"⟩
abbrev yB : ByteArray := jdk_52_method_16_code
theorem d0 : decode yB 0 = .ok (.iload_n 2, 1) := by decide +kernel
theorem d1 : decode yB 1 = .ok (.newarray .byte, 2) := by decide +kernel
theorem d3 : decode yB 3 = .ok (.astore_n 3, 1) := by decide +kernel
theorem d4 : decode yB 4 = .ok (.aload_n 0, 1) := by decide +kernel
theorem d5 : decode yB 5 = .ok (.iload_n 1, 1) := by decide +kernel
theorem d6 : decode yB 6 = .ok (.aload_n 3, 1) := by decide +kernel
theorem d7 : decode yB 7 = .ok (.iconst 0, 1) := by decide +kernel
theorem d8 : decode yB 8 = .ok (.iload_n 2, 1) := by decide +kernel
theorem d9 : decode yB 9 = .ok (.invokestatic 115, 3) := by decide +kernel
theorem d12 : decode yB 12 = .ok (.istore 4, 2) := by decide +kernel
theorem d14 : decode yB 14 = .ok (.iload 4, 2) := by decide +kernel
theorem d16 : decode yB 16 = .ok (.iload_n 2, 1) := by decide +kernel
theorem d17 : decode yB 17 = .ok (.if_icmp (.eq) 40, 3) := by decide +kernel
theorem d57 : decode yB 57 = .ok (.aload_n 3, 1) := by decide +kernel
theorem d58 : decode yB 58 = .ok (.areturn, 1) := by decide +kernel
def site : List Cond := [.arrayClass .byte, Cmp5.tab] ++ staticW U16 115 Cmp5.yN
def tab : Cond := tabOf yN yB 6 (some (.array .byte)) site
def P (b : Addr) (A : Cell) (o len : Nat) (args : Array Value) (s : State) : Prop := args = #[.ref b, .int (Int32.ofNat o), .int (Int32.ofNat len)] ∧ Ch b A s ∧ o + len ≤ A.slots.size ∧ len ≤ 536870912 ∧ ∀ i, i < len → ¬ 255 < cv A (o + i)
def E (b : Addr) (A : Cell) (o len : Nat) (r : Option Value) (s u : State) : Prop := NewArr .byte "[B" len (fun j => .int (lo8 (cv A (o + j)))) r s u ∧ u.heap.size = s.heap.size + 1
/-- no char of the range above 255: a new byte[] of their low bytes -/
theorem law (l : Launch) (b : Addr) (A : Cell) (o len : Nat) : Law l yN 3 3 1 18 yB 6 (some (.array .byte)) site (P b A o len) (E b A o len) [] 1 len := by
  refine Law.of_walk (plainFor_of_name (by decide +kernel)) (by decide +kernel) (by decide +kernel) (by decide) (fun _ _ h => by rw [h.1]; rfl) (fun _ U U' hal hh h => ⟨h.1, h.2.1.mv hal hh, h.2.2⟩) (fun r U U' V V' h1 hal h2 h => ⟨NewArr.mv r U U' V V' h1 hal h2 h.1, by rw [h1, h2]; exact h.2⟩) ?_
  intro p e s m args below meth c s₁ X0 hexec hbytes hml hret hlk hnm hown hh0 W hP
  obtain ⟨rfl, hA, l1, l2, hp⟩ := hP
  have a31 := hA.1.2.2.2
  have c1 : Steps p.tables e below (s₁.setTop (entryFrame m #[.ref b, .int (Int32.ofNat o), .int (Int32.ofNat len)] 6)) (s₁.setTop (mkF m 0 #[.val (.ref b), .val (.int (Int32.ofNat o)), .val (.int (Int32.ofNat len)), .unset, .unset, .unset] [])) := entry rfl
  have c2 : Steps p.tables e below (s₁.setTop (entryFrame m #[.ref b, .int (Int32.ofNat o), .int (Int32.ofNat len)] 6)) (s₁.setTop (mkF m 1 #[.val (.ref b), .val (.int (Int32.ofNat o)), .val (.int (Int32.ofNat len)), .unset, .unset, .unset] [.int (Int32.ofNat len)])) := c1.trans (by
    refine XS.iloadN X0.here hexec rfl (hb hbytes d0) rfl ?_
    exact Steps.refl _)
  obtain ⟨T3, B3, X3, ba3, bs3, bv3, bh3, bf3, st3⟩ := X0.anew hexec (atype := .byte) (wk W (.arrayClass .byte)) rfl (by show len * 1 ≤ _; omega) (by omega) (g := (mkF m 1 #[.val (.ref b), .val (.int (Int32.ofNat o)), .val (.int (Int32.ofNat len)), .unset, .unset, .unset] [.int (Int32.ofNat len)])) rfl (hb hbytes d1) (rest := []) rfl (Nat.le_refl _) (by show 0 + len ≤ len; omega)
  rw [hh0] at ba3 st3
  have kp3 : XT.Kept s T3 := (XT.Kept.of_eq hh0).push bh3
  have hA3 := hA.keep X3.warmed.alike (kp3 _ _ hA.1.1)
  have hne : b ≠ s.heap.size := hA.1.ne
  have c4 : Steps p.tables e below (s₁.setTop (entryFrame m #[.ref b, .int (Int32.ofNat o), .int (Int32.ofNat len)] 6)) (T3.setTop (mkF m 3 #[.val (.ref b), .val (.int (Int32.ofNat o)), .val (.int (Int32.ofNat len)), .unset, .unset, .unset] [.ref s.heap.size])) := c2.trans (st3 _ (Steps.refl _))
  have c5 : Steps p.tables e below (s₁.setTop (entryFrame m #[.ref b, .int (Int32.ofNat o), .int (Int32.ofNat len)] 6)) (T3.setTop (mkF m 9 #[.val (.ref b), .val (.int (Int32.ofNat o)), .val (.int (Int32.ofNat len)), .val (.ref s.heap.size), .unset, .unset] [.int (Int32.ofNat len), .int 0, .ref s.heap.size, .int (Int32.ofNat o), .ref b])) := c4.trans (by
    refine XS.astoreN X3.here hexec rfl (hb hbytes d3) rfl rfl rfl ?_
    refine XS.aloadN X3.here hexec rfl (hb hbytes d4) rfl rfl ?_
    refine XS.iloadN X3.here hexec rfl (hb hbytes d5) rfl ?_
    refine XS.aloadN X3.here hexec rfl (hb hbytes d6) rfl rfl ?_
    refine iconstV X3.here hexec rfl 0 (hb hbytes d7) (by decide) ?_
    refine XS.iloadN X3.here hexec rfl (hb hbytes d8) rfl ?_
    exact Steps.refl _)
  obtain ⟨v6, T6, X6, E6, g6⟩ := X3.callS hexec (Cmp5.law l b A s.heap.size B3 o 0 len) hown (wks W (staticW U16 115 Cmp5.yN)) (wk W Cmp5.tab) (W := 0) (Nat.le_of_ble_eq_true rfl) (Nat.le_of_ble_eq_true rfl) (Nat.le_refl _) (by show 0 + len + 0 ≤ len; omega) (g := (mkF m 9 #[.val (.ref b), .val (.int (Int32.ofNat o)), .val (.int (Int32.ofNat len)), .val (.ref s.heap.size), .unset, .unset] [.int (Int32.ofNat len), .int (Int32.ofNat 0), .ref s.heap.size, .int (Int32.ofNat o), .ref b])) rfl (by rw [hml]; rfl) c5 (argsL := [.ref b, .int (Int32.ofNat o), .ref s.heap.size, .int (Int32.ofNat 0), .int (Int32.ofNat len)]) (rest := []) rfl rfl (by show 2 * 0 + 0 ≤ _; decide) (hb hbytes d9) (⟨rfl, hA3, ba3, hne, l1, by rw [bs3]; simp, hp⟩)
  obtain ⟨rfl, B6, p6, f6⟩ := E6
  have c7 : Steps p.tables e below (s₁.setTop (entryFrame m #[.ref b, .int (Int32.ofNat o), .int (Int32.ofNat len)] 6)) (T6.setTop (mkF m 12 #[.val (.ref b), .val (.int (Int32.ofNat o)), .val (.int (Int32.ofNat len)), .val (.ref s.heap.size), .unset, .unset] [.int (Int32.ofNat len)])) := g6
  have c8 : Steps p.tables e below (s₁.setTop (entryFrame m #[.ref b, .int (Int32.ofNat o), .int (Int32.ofNat len)] 6)) (T6.setTop (mkF m 58 #[.val (.ref b), .val (.int (Int32.ofNat o)), .val (.int (Int32.ofNat len)), .val (.ref s.heap.size), .val (.int (Int32.ofNat len)), .unset] [.ref s.heap.size])) := c7.trans (by
    refine XS.istore X6.here hexec rfl (hb hbytes d12) rfl rfl ?_
    refine XS.iload X6.here hexec rfl (hb hbytes d14) rfl ?_
    refine XS.iloadN X6.here hexec rfl (hb hbytes d16) rfl ?_
    refine XS.icmpYes X6.here hexec rfl (pc0 := 17) rfl (hb hbytes d17) rfl (ii_eq_t rfl) (by decide) rfl ?_
    refine XS.aloadN X6.here hexec rfl (hb hbytes d57) rfl rfl ?_
    exact Steps.refl _)
  have X8 := X6.wide (L' := []) (cells' := 1) (slots' := len) (fun x hx hlt => by
    simp only [List.nil_append, copyLocs, List.mem_map, List.mem_range] at hx
    obtain ⟨i, -, rfl⟩ := hx
    exact absurd hlt (Nat.lt_irrefl _)) (Nat.le_refl _) (by omega)
  exact ⟨T6, some (.ref s.heap.size), _, _, _, X8, rfl, rfl, rfl, (fun h => by cases h), ⟨⟨rfl, B6, ba3.like (X3.warmed.alike.symm.trans X6.warmed.alike) p6.1 f6.1 f6.2.1 f6.2.2.1, f6.2.1.trans bv3, by rw [X6.warmed.alike.findClass, f6.1]; exact bf3, by rw [f6.2.2.1, bs3]; simp, fun j hj => by rw [f6.2.2.2 j, if_pos (by omega)]; rfl, kp3.put p6 (Nat.le_refl _)⟩, by rw [p6.2.2, bh3, hh0]; simp⟩, fun fs hl => c8.trans (X8.areturnOut hexec rfl hret rfl (hb hbytes d58) hl)⟩
end Cmp3
namespace CodL
def yN : MethodName := ⟨"java/lang/StringUTF16", "coderFromArrayLen", "([BI)B"⟩
abbrev yB : ByteArray := jdk_52_method_15_code
theorem d0 : decode yB 0 = .ok (.iload_n 1, 1) := by decide +kernel
theorem d1 : decode yB 1 = .ok (.aload_n 0, 1) := by decide +kernel
theorem d2 : decode yB 2 = .ok (.arraylength, 1) := by decide +kernel
theorem d3 : decode yB 3 = .ok (.isub, 1) := by decide +kernel
theorem d4 : decode yB 4 = .ok (.bipush 31, 2) := by decide +kernel
theorem d6 : decode yB 6 = .ok (.iushr, 1) := by decide +kernel
theorem d7 : decode yB 7 = .ok (.i2b, 1) := by decide +kernel
theorem d8 : decode yB 8 = .ok (.ireturn, 1) := by decide +kernel
def site : List Cond := []
def tab : Cond := tabOf yN yB 2 (some .byte) site
def P (d : Addr) (B : Cell) (args : Array Value) (s : State) : Prop := args = #[.ref d, .int (Int32.ofNat B.slots.size)] ∧ Arr .byte d B s
def E (r : Option Value) (s u : State) : Prop := XT.PureE (some (.int 0)) r s u
/-- an array as long as the number of chars: LATIN1 -/
theorem law (l : Launch) (d : Addr) (B : Cell) : Law l yN 2 2 0 0 yB 2 (some .byte) site (P d B) E [] 0 0 := by
  refine Law.of_walk (plainFor_of_name (by decide +kernel)) (by decide +kernel) (by decide +kernel) (by decide) (fun _ _ h => by rw [h.1]; rfl) (fun _ U U' hal hh h => ⟨h.1, h.2.mv hal hh⟩) (fun r U U' V V' h1 hal h2 h => XT.PureE.mv r U U' V V' h1 hal h2 h) ?_
  intro p e s m args below meth c s₁ X0 hexec hbytes hml hret hlk hnm hown hh0 W hP
  obtain ⟨rfl, hB⟩ := hP
  have hB0 := hB.mv X0.warmed.alike hh0
  have c1 : Steps p.tables e below (s₁.setTop (entryFrame m #[.ref d, .int (Int32.ofNat B.slots.size)] 2)) (s₁.setTop (mkF m 0 #[.val (.ref d), .val (.int (Int32.ofNat B.slots.size))] [])) := entry rfl
  have c2 : Steps p.tables e below (s₁.setTop (entryFrame m #[.ref d, .int (Int32.ofNat B.slots.size)] 2)) (s₁.setTop (mkF m 2 #[.val (.ref d), .val (.int (Int32.ofNat B.slots.size))] [.ref d, .int (Int32.ofNat B.slots.size)])) := c1.trans (by
    refine XS.iloadN X0.here hexec rfl (hb hbytes d0) rfl ?_
    refine XS.aloadN X0.here hexec rfl (hb hbytes d1) rfl rfl ?_
    exact Steps.refl _)
  have c3 : Steps p.tables e below (s₁.setTop (entryFrame m #[.ref d, .int (Int32.ofNat B.slots.size)] 2)) (s₁.setTop (mkF m 8 #[.val (.ref d), .val (.int (Int32.ofNat B.slots.size))] [.int (lo8 (ushr (Int32.ofNat B.slots.size - Int32.ofNat B.slots.size) 31))])) := c2.trans (by
    refine X0.alen hexec hB0 rfl rfl (hb hbytes d2) ?_
    refine XS.isub X0.here hexec rfl (hb hbytes d3) rfl ?_
    refine bipushV X0.here hexec rfl 31 (hb hbytes d4) (by decide) ?_
    refine iushr X0.here hexec rfl (hb hbytes d6) rfl ?_
    refine i2b X0.here hexec rfl (hb hbytes d7) rfl ?_
    exact Steps.refl _)
  have e0 : lo8 (ushr (Int32.ofNat B.slots.size - Int32.ofNat B.slots.size) 31) = 0 := by rw [Int32.sub_self]; decide
  rw [e0] at c3
  exact ⟨s₁, some (.int 0), _, _, _, X0, rfl, rfl, rfl, (fun h => by cases h), ⟨rfl, hh0⟩, fun fs hl => c3.trans (X0.ireturnOut hexec hret rfl (Or.inr (Or.inr (Or.inl rfl))) (hb hbytes d8) hl)⟩
end CodL
/-- the String at a is Latin-1 over a new byte[] (the heap's one new cell): the low bytes of the len chars of A from o on; every cell but a is kept -/
def Got (a : Addr) (D : Cell) (fV fC : Field) (A : Cell) (o len : Nat) (r : Option Value) (s u : State) : Prop := r = none ∧ ∃ D' V : Cell, Blank "java/lang/String" a D' u ∧ Same D D' [fV.slot, fC.slot] ∧ D'.slots[fV.slot]? = some (.ref s.heap.size) ∧ D'.slots[fC.slot]? = some (.int 0) ∧ Arr .byte s.heap.size V u ∧ V.vm = .none ∧ u.vm.findClass "[B" = some V.cls ∧ V.slots.size = len ∧ (∀ j, j < len → V.slots[j]? = some (.int (lo8 (cv A (o + j))))) ∧ (∀ (y : Addr) (c : Cell), y ≠ a → s.heap[y]? = some c → u.heap[y]? = some c) ∧ u.heap.size = s.heap.size + 1
theorem Got.mv {a : Addr} {D A : Cell} {fV fC : Field} {o len : Nat} : ∀ r (U U' V V' : State), U'.heap = U.heap → V.vm.Alike V'.vm → V'.heap = V.heap → Got a D fV fC A o len r U V → Got a D fV fC A o len r U' V' :=
  fun r U U' V V' h1 hal h2 ⟨e0, D', X, a1, a2, a3, a4, a5, a6, a7, a8, a9, a10, a11⟩ => ⟨e0, D', X, a1.mv hal h2, a2, by rw [h1]; exact a3, a4, by rw [h1]; exact a5.mv hal h2, a6, by rw [hal.findClass]; exact a7, a8, a9, by rw [h1, h2]; exact a10, by rw [h1, h2]; exact a11⟩
namespace New4
def yN : MethodName := ⟨"java/lang/String", "<init>", "([CIILjava/lang/Void;)V"⟩
abbrev yB : ByteArray := jdk_42_method_149_code
theorem d0 : decode yB 0 = .ok (.aload_n 0, 1) := by decide +kernel
theorem d1 : decode yB 1 = .ok (.invokespecial 1, 3) := by decide +kernel
theorem d4 : decode yB 4 = .ok (.iload_n 3, 1) := by decide +kernel
theorem d5 : decode yB 5 = .ok (.ifCond (.ne) 22, 3) := by decide +kernel
theorem d27 : decode yB 27 = .ok (.getstatic 38, 3) := by decide +kernel
theorem d30 : decode yB 30 = .ok (.ifCond (.eq) 28, 3) := by decide +kernel
theorem d33 : decode yB 33 = .ok (.aload_n 1, 1) := by decide +kernel
theorem d34 : decode yB 34 = .ok (.iload_n 2, 1) := by decide +kernel
theorem d35 : decode yB 35 = .ok (.iload_n 3, 1) := by decide +kernel
theorem d36 : decode yB 36 = .ok (.invokestatic 177, 3) := by decide +kernel
theorem d39 : decode yB 39 = .ok (.astore 5, 2) := by decide +kernel
theorem d41 : decode yB 41 = .ok (.aload_n 0, 1) := by decide +kernel
theorem d42 : decode yB 42 = .ok (.aload 5, 2) := by decide +kernel
theorem d44 : decode yB 44 = .ok (.iload_n 3, 1) := by decide +kernel
theorem d45 : decode yB 45 = .ok (.invokestatic 47, 3) := by decide +kernel
theorem d48 : decode yB 48 = .ok (.putfield 15, 3) := by decide +kernel
theorem d51 : decode yB 51 = .ok (.aload_n 0, 1) := by decide +kernel
theorem d52 : decode yB 52 = .ok (.aload 5, 2) := by decide +kernel
theorem d54 : decode yB 54 = .ok (.putfield 9, 3) := by decide +kernel
theorem d57 : decode yB 57 = .ok (.return_, 1) := by decide +kernel
def site : List Cond := [.fieldLink "java/lang/String" 38 "java/lang/String" "COMPACT_STRINGS" "Z", Cmp3.tab, CodL.tab, .laysFinal "java/lang/String" "java/lang/String" "value" "[B", .fieldLink "java/lang/String" 9 "java/lang/String" "value" "[B", .laysFinal "java/lang/String" "java/lang/String" "coder" "B", .fieldLink "java/lang/String" 15 "java/lang/String" "coder" "B"] ++ objW "java/lang/String" 1 ++ staticW "java/lang/String" 177 Cmp3.yN ++ staticW "java/lang/String" 47 CodL.yN
def tab : Cond := tabOf yN yB 6 none site
def P (a : Addr) (D : Cell) (fV fC : Field) (b : Addr) (A : Cell) (z : Int32) (o len : Nat) (args : Array Value) (s : State) : Prop := args = #[.ref a, .ref b, .int (Int32.ofNat o), .int (Int32.ofNat len), .null] ∧ Blank "java/lang/String" a D s ∧ Found "java/lang/String" "value" "[B" fV s ∧ Found "java/lang/String" "coder" "B" fC s ∧ Ch b A s ∧ StaticIs s "java/lang/String" "COMPACT_STRINGS" "Z" (.int z) ∧ ¬ z = 0 ∧ 0 < len ∧ o + len ≤ A.slots.size ∧ len ≤ 536870912 ∧ ∀ i, i < len → ¬ 255 < cv A (o + i)
def E (a : Addr) (D : Cell) (fV fC : Field) (A : Cell) (o len : Nat) (r : Option Value) (s u : State) : Prop := Got a D fV fC A o len r s u
/-- len > 0, no char of the range above 255: a Latin-1 String of their low bytes -/
theorem law (l : Launch) (a : Addr) (D : Cell) (fV fC : Field) (b : Addr) (A : Cell) (z : Int32) (o len : Nat) : Law l yN 5 4 2 35 yB 6 none site (P a D fV fC b A z o len) (E a D fV fC A o len) [⟨a, fC.slot⟩, ⟨a, fV.slot⟩] 1 len := by
  refine Law.of_walk (plainFor_of_name (by decide +kernel)) (by decide +kernel) (by decide +kernel) (by decide) (fun _ _ h => by rw [h.1]; rfl) (fun _ U U' hal hh h => ⟨h.1, h.2.1.mv hal hh, h.2.2.1.al hal, h.2.2.2.1.al hal, h.2.2.2.2.1.mv hal hh, h.2.2.2.2.2.1.there hal hh, h.2.2.2.2.2.2⟩) (fun r U U' V V' h1 hal h2 h => Got.mv r U U' V V' h1 hal h2 h) ?_
  intro p e s m args below meth c s₁ X0 hexec hbytes hml hret hlk hnm hown hh0 W hP
  obtain ⟨rfl, hB, f1, f2, hA, s1, hz, l0, l1, l2, hp⟩ := hP
  have a31 := hA.1.2.2.2
  have c1 : Steps p.tables e below (s₁.setTop (entryFrame m #[.ref a, .ref b, .int (Int32.ofNat o), .int (Int32.ofNat len), .null] 6)) (s₁.setTop (mkF m 0 #[.val (.ref a), .val (.ref b), .val (.int (Int32.ofNat o)), .val (.int (Int32.ofNat len)), .val .null, .unset] [])) := entry rfl
  have c2 : Steps p.tables e below (s₁.setTop (entryFrame m #[.ref a, .ref b, .int (Int32.ofNat o), .int (Int32.ofNat len), .null] 6)) (s₁.setTop (mkF m 1 #[.val (.ref a), .val (.ref b), .val (.int (Int32.ofNat o)), .val (.int (Int32.ofNat len)), .val .null, .unset] [.ref a])) := c1.trans (by
    refine XS.aloadN X0.here hexec rfl (hb hbytes d0) rfl rfl ?_
    exact Steps.refl _)
  obtain ⟨T3, X3, q3, st3⟩ := X0.oinit hexec hown (wks W (objW "java/lang/String" 1)) (g := (mkF m 1 #[.val (.ref a), .val (.ref b), .val (.int (Int32.ofNat o)), .val (.int (Int32.ofNat len)), .val .null, .unset] [.ref a])) rfl (by rw [hml]; rfl) (rest := []) rfl (hb hbytes d1) (W := 0) (by show 2 * 0 + 0 ≤ _; decide) (Nat.le_of_ble_eq_true rfl) (Nat.le_of_ble_eq_true rfl)
  have hh3 := q3.trans hh0
  have c4 : Steps p.tables e below (s₁.setTop (entryFrame m #[.ref a, .ref b, .int (Int32.ofNat o), .int (Int32.ofNat len), .null] 6)) (T3.setTop (mkF m 27 #[.val (.ref a), .val (.ref b), .val (.int (Int32.ofNat o)), .val (.int (Int32.ofNat len)), .val .null, .unset] [])) := (c2.trans (st3 _ (Steps.refl _))).trans (by
    refine XS.iloadN X3.here hexec rfl (hb hbytes d4) rfl ?_
    refine XS.ifYes X3.here hexec rfl (pc0 := 5) rfl (hb hbytes d5) rfl (i0_ne_t (nz32 (by omega) l0)) (by decide) rfl ?_
    exact Steps.refl _)
  obtain ⟨T5, X5, q5, st5⟩ := X3.sget hexec hown (wk W (.fieldLink "java/lang/String" 38 "java/lang/String" "COMPACT_STRINGS" "Z")) s1 (fun _ _ h => by rw [hh3]; exact h) (g := (mkF m 27 #[.val (.ref a), .val (.ref b), .val (.int (Int32.ofNat o)), .val (.int (Int32.ofNat len)), .val .null, .unset] [])) rfl (hb hbytes d27)
  have hh5 := q5.trans hh3
  have c6 : Steps p.tables e below (s₁.setTop (entryFrame m #[.ref a, .ref b, .int (Int32.ofNat o), .int (Int32.ofNat len), .null] 6)) (T5.setTop (mkF m 30 #[.val (.ref a), .val (.ref b), .val (.int (Int32.ofNat o)), .val (.int (Int32.ofNat len)), .val .null, .unset] [.int z])) := c4.trans (st5 _ (Steps.refl _))
  have c7 : Steps p.tables e below (s₁.setTop (entryFrame m #[.ref a, .ref b, .int (Int32.ofNat o), .int (Int32.ofNat len), .null] 6)) (T5.setTop (mkF m 36 #[.val (.ref a), .val (.ref b), .val (.int (Int32.ofNat o)), .val (.int (Int32.ofNat len)), .val .null, .unset] [.int (Int32.ofNat len), .int (Int32.ofNat o), .ref b])) := c6.trans (by
    refine XS.ifNo X5.here hexec rfl (hb hbytes d30) rfl (i0_eq_f hz) ?_
    refine XS.aloadN X5.here hexec rfl (hb hbytes d33) rfl rfl ?_
    refine XS.iloadN X5.here hexec rfl (hb hbytes d34) rfl ?_
    refine XS.iloadN X5.here hexec rfl (hb hbytes d35) rfl ?_
    exact Steps.refl _)
  obtain ⟨v8, T8, X8, E8, g8⟩ := X5.callS hexec (Cmp3.law l b A o len) hown (wks W (staticW "java/lang/String" 177 Cmp3.yN)) (wk W Cmp3.tab) (W := 0) (Nat.le_of_ble_eq_true rfl) (Nat.le_of_ble_eq_true rfl) (Nat.le_refl _) (by show 0 + len ≤ len; omega) (g := (mkF m 36 #[.val (.ref a), .val (.ref b), .val (.int (Int32.ofNat o)), .val (.int (Int32.ofNat len)), .val .null, .unset] [.int (Int32.ofNat len), .int (Int32.ofNat o), .ref b])) rfl (by rw [hml]; rfl) c7 (argsL := [.ref b, .int (Int32.ofNat o), .int (Int32.ofNat len)]) (rest := []) rfl rfl (by show 2 * 0 + 0 ≤ _; decide) (hb hbytes d36) (⟨rfl, hA.mv X5.warmed.alike hh5, l1, l2, hp⟩)
  obtain ⟨e8, z8⟩ := E8
  obtain ⟨rfl, N, n1, n2, n3, n4, n5, n6⟩ := NewArr.mv _ T5 s _ _ hh5.symm (Vm.Alike.refl _) rfl e8
  rw [hh5] at z8
  have hB1 := hB.keep X8.warmed.alike (n6 _ _ hB.1)
  have hne : s.heap.size ≠ a := (Nat.ne_of_lt (Array.getElem?_eq_some_iff.mp hB.1).1).symm
  have c9 : Steps p.tables e below (s₁.setTop (entryFrame m #[.ref a, .ref b, .int (Int32.ofNat o), .int (Int32.ofNat len), .null] 6)) (T8.setTop (mkF m 39 #[.val (.ref a), .val (.ref b), .val (.int (Int32.ofNat o)), .val (.int (Int32.ofNat len)), .val .null, .unset] [.ref s.heap.size])) := g8
  have c10 : Steps p.tables e below (s₁.setTop (entryFrame m #[.ref a, .ref b, .int (Int32.ofNat o), .int (Int32.ofNat len), .null] 6)) (T8.setTop (mkF m 45 #[.val (.ref a), .val (.ref b), .val (.int (Int32.ofNat o)), .val (.int (Int32.ofNat len)), .val .null, .val (.ref s.heap.size)] [.int (Int32.ofNat N.slots.size), .ref s.heap.size, .ref a])) := by
    have hc : Steps p.tables e below (s₁.setTop (entryFrame m #[.ref a, .ref b, .int (Int32.ofNat o), .int (Int32.ofNat len), .null] 6)) (T8.setTop (mkF m 45 #[.val (.ref a), .val (.ref b), .val (.int (Int32.ofNat o)), .val (.int (Int32.ofNat len)), .val .null, .val (.ref s.heap.size)] [.int (Int32.ofNat len), .ref s.heap.size, .ref a])) := c9.trans (by
      refine XS.astore X8.here hexec rfl (hb hbytes d39) rfl rfl rfl ?_
      refine XS.aloadN X8.here hexec rfl (hb hbytes d41) rfl rfl ?_
      refine XS.aload X8.here hexec rfl (hb hbytes d42) rfl rfl ?_
      refine XS.iloadN X8.here hexec rfl (hb hbytes d44) rfl ?_
      exact Steps.refl _)
    rw [n4]; exact hc
  obtain ⟨v11, T11, X11, E11, g11⟩ := X8.callS hexec (CodL.law l s.heap.size N) hown (wks W (staticW "java/lang/String" 47 CodL.yN)) (wk W CodL.tab) (W := 1) (Nat.le_of_ble_eq_true rfl) (Nat.le_of_ble_eq_true rfl) (Nat.le_refl _) (by show 0 + len + 0 ≤ len; omega) (g := (mkF m 45 #[.val (.ref a), .val (.ref b), .val (.int (Int32.ofNat o)), .val (.int (Int32.ofNat len)), .val .null, .val (.ref s.heap.size)] [.int (Int32.ofNat N.slots.size), .ref s.heap.size, .ref a])) rfl (by rw [hml]; rfl) c10 (argsL := [.ref s.heap.size, .int (Int32.ofNat N.slots.size)]) (rest := [.ref a]) rfl rfl (by show 2 * 0 + (1 + 0) ≤ _; decide) (hb hbytes d45) (⟨rfl, n1⟩)
  obtain ⟨rfl, q11⟩ := E11
  have hB11 := hB1.mv (X8.warmed.alike.symm.trans X11.warmed.alike) q11
  have c12 : Steps p.tables e below (s₁.setTop (entryFrame m #[.ref a, .ref b, .int (Int32.ofNat o), .int (Int32.ofNat len), .null] 6)) (T11.setTop (mkF m 48 #[.val (.ref a), .val (.ref b), .val (.int (Int32.ofNat o)), .val (.int (Int32.ofNat len)), .val .null, .val (.ref s.heap.size)] [.int 0, .ref a])) := g11
  obtain ⟨T13, X13, p13, bl13, sl13, st13⟩ := X11.finit hexec hown (wk W (.fieldLink "java/lang/String" 15 "java/lang/String" "coder" "B")) (Or.inr ⟨_, (wk W (.laysFinal "java/lang/String" "java/lang/String" "coder" "B"))⟩) (Or.inl ⟨rfl, hnm⟩) f2 (Or.inl rfl) hB11 (t := .byte) (by decide +kernel) rfl (g := (mkF m 48 #[.val (.ref a), .val (.ref b), .val (.int (Int32.ofNat o)), .val (.int (Int32.ofNat len)), .val .null, .val (.ref s.heap.size)] [.int 0, .ref a])) rfl (rest := []) rfl (hb hbytes d48)
  have c14 : Steps p.tables e below (s₁.setTop (entryFrame m #[.ref a, .ref b, .int (Int32.ofNat o), .int (Int32.ofNat len), .null] 6)) (T13.setTop (mkF m 54 #[.val (.ref a), .val (.ref b), .val (.int (Int32.ofNat o)), .val (.int (Int32.ofNat len)), .val .null, .val (.ref s.heap.size)] [.ref s.heap.size, .ref a])) := (c12.trans (st13 _ (Steps.refl _))).trans (by
    refine XS.aloadN X13.here hexec rfl (hb hbytes d51) rfl rfl ?_
    refine XS.aload X13.here hexec rfl (hb hbytes d52) rfl rfl ?_
    exact Steps.refl _)
  obtain ⟨T15, X15, p15, bl15, sl15, st15⟩ := X13.finit hexec hown (wk W (.fieldLink "java/lang/String" 9 "java/lang/String" "value" "[B")) (Or.inr ⟨_, (wk W (.laysFinal "java/lang/String" "java/lang/String" "value" "[B"))⟩) (Or.inl ⟨rfl, hnm⟩) f1 (Or.inl rfl) bl13 (t := (.array .byte)) (by decide +kernel) rfl (g := (mkF m 54 #[.val (.ref a), .val (.ref b), .val (.int (Int32.ofNat o)), .val (.int (Int32.ofNat len)), .val .null, .val (.ref s.heap.size)] [.ref s.heap.size, .ref a])) rfl (rest := []) rfl (hb hbytes d54)
  have c16 : Steps p.tables e below (s₁.setTop (entryFrame m #[.ref a, .ref b, .int (Int32.ofNat o), .int (Int32.ofNat len), .null] 6)) (T15.setTop (mkF m 57 #[.val (.ref a), .val (.ref b), .val (.int (Int32.ofNat o)), .val (.int (Int32.ofNat len)), .val .null, .val (.ref s.heap.size)] [])) := c14.trans (st15 _ (Steps.refl _))
  have ap := apart (Or.inr ⟨_, (wk W (.laysFinal "java/lang/String" "java/lang/String" "value" "[B"))⟩) (Or.inr ⟨_, (wk W (.laysFinal "java/lang/String" "java/lang/String" "coder" "B"))⟩) f1 f2 (t₁ := .array .byte) (t₂ := .byte) (by decide +kernel) (by decide +kernel) (by decide)
  have al := X8.warmed.alike.symm.trans X15.warmed.alike
  have n7 : T11.heap[s.heap.size]? = some N := by rw [q11]; exact n1.1
  exact ⟨T15, none, _, _, _, X15, by simp, rfl, by omega, (fun _ => rfl), ⟨rfl, _, N, bl15, ((Same.refl D _).set _ (by simp)).set _ (by simp), sl15, (Cell.slots_setSlot_ne _ ap).trans sl13, n1.keep al (p15.other hne (p13.other hne n7)), n2, by rw [al.findClass]; exact n3, n4, n5, fun y c h1 h2 => p15.other h1 (p13.other h1 (by rw [q11]; exact n6 y c h2)), by rw [p15.2.2, p13.2.2, q11]; exact z8⟩, fun fs hl => c16.trans (X15.returnOut hexec hret (hb hbytes d57) hl)⟩
end New4
namespace New1
def yN : MethodName := ⟨"java/lang/String", "<init>", "([C)V"⟩
abbrev yB : ByteArray := jdk_42_method_3_code
theorem d0 : decode yB 0 = .ok (.aload_n 0, 1) := by decide +kernel
theorem d1 : decode yB 1 = .ok (.aload_n 1, 1) := by decide +kernel
theorem d2 : decode yB 2 = .ok (.iconst 0, 1) := by decide +kernel
theorem d3 : decode yB 3 = .ok (.aload_n 1, 1) := by decide +kernel
theorem d4 : decode yB 4 = .ok (.arraylength, 1) := by decide +kernel
theorem d5 : decode yB 5 = .ok (.aconst_null, 1) := by decide +kernel
theorem d6 : decode yB 6 = .ok (.invokespecial 27, 3) := by decide +kernel
theorem d9 : decode yB 9 = .ok (.return_, 1) := by decide +kernel
def site : List Cond := [New4.tab] ++ initW "java/lang/String" 27 New4.yN
def tab : Cond := tabOf yN yB 2 none site
def P (a : Addr) (D : Cell) (fV fC : Field) (b : Addr) (A : Cell) (z : Int32) (args : Array Value) (s : State) : Prop := args = #[.ref a, .ref b] ∧ Blank "java/lang/String" a D s ∧ Found "java/lang/String" "value" "[B" fV s ∧ Found "java/lang/String" "coder" "B" fC s ∧ Ch b A s ∧ StaticIs s "java/lang/String" "COMPACT_STRINGS" "Z" (.int z) ∧ ¬ z = 0 ∧ 0 < A.slots.size ∧ A.slots.size ≤ 536870912 ∧ ∀ i, i < A.slots.size → ¬ 255 < cv A i
def E (a : Addr) (D : Cell) (fV fC : Field) (A : Cell) (r : Option Value) (s u : State) : Prop := Got a D fV fC A 0 A.slots.size r s u
/-- new String(chars), not empty, no char above 255: a Latin-1 String of their low bytes -/
theorem law (l : Launch) (a : Addr) (D : Cell) (fV fC : Field) (b : Addr) (A : Cell) (z : Int32) : Law l yN 2 1 3 52 yB 2 none site (P a D fV fC b A z) (E a D fV fC A) [⟨a, fC.slot⟩, ⟨a, fV.slot⟩] 1 A.slots.size := by
  refine Law.of_walk (plainFor_of_name (by decide +kernel)) (by decide +kernel) (by decide +kernel) (by decide) (fun _ _ h => by rw [h.1]; rfl) (fun _ U U' hal hh h => ⟨h.1, h.2.1.mv hal hh, h.2.2.1.al hal, h.2.2.2.1.al hal, h.2.2.2.2.1.mv hal hh, h.2.2.2.2.2.1.there hal hh, h.2.2.2.2.2.2⟩) (fun r U U' V V' h1 hal h2 h => Got.mv r U U' V V' h1 hal h2 h) ?_
  intro p e s m args below meth c s₁ X0 hexec hbytes hml hret hlk hnm hown hh0 W hP
  obtain ⟨rfl, hB, f1, f2, hA, s1, hz, l0, l2, hp⟩ := hP
  have c1 : Steps p.tables e below (s₁.setTop (entryFrame m #[.ref a, .ref b] 2)) (s₁.setTop (mkF m 0 #[.val (.ref a), .val (.ref b)] [])) := entry rfl
  have c2 : Steps p.tables e below (s₁.setTop (entryFrame m #[.ref a, .ref b] 2)) (s₁.setTop (mkF m 6 #[.val (.ref a), .val (.ref b)] [.null, .int (Int32.ofNat A.slots.size), .int 0, .ref b, .ref a])) := c1.trans (by
    refine XS.aloadN X0.here hexec rfl (hb hbytes d0) rfl rfl ?_
    refine XS.aloadN X0.here hexec rfl (hb hbytes d1) rfl rfl ?_
    refine iconstV X0.here hexec rfl 0 (hb hbytes d2) (by decide) ?_
    refine XS.aloadN X0.here hexec rfl (hb hbytes d3) rfl rfl ?_
    refine X0.alen hexec (hA.1.mv X0.warmed.alike hh0) rfl rfl (hb hbytes d4) ?_
    refine XS.aconstNull X0.here hexec rfl (hb hbytes d5) ?_
    exact Steps.refl _)
  obtain ⟨v3, T3, X3, E3, g3⟩ := X0.callN hexec (New4.law l a D fV fC b A z 0 A.slots.size) rfl hown (wks W (initW "java/lang/String" 27 New4.yN)) (W New4.tab (by simp only [site, List.mem_cons, List.mem_append, true_or, or_true])) (W := 0) (Nat.le_of_ble_eq_true rfl) (Nat.le_of_ble_eq_true rfl) (Nat.le_refl _) (by show 0 + A.slots.size ≤ A.slots.size; omega) (g := (mkF m 6 #[.val (.ref a), .val (.ref b)] [.null, .int (Int32.ofNat A.slots.size), .int (Int32.ofNat 0), .ref b, .ref a])) rfl (by rw [hml]; rfl) c2 (argsL := [.ref b, .int (Int32.ofNat 0), .int (Int32.ofNat A.slots.size), .null]) (rest := []) rfl rfl (by show 2 * 0 + 0 ≤ _; decide) (hb hbytes d6) (⟨rfl, hB.mv X0.warmed.alike hh0, f1.al X0.warmed.alike, f2.al X0.warmed.alike, hA.mv X0.warmed.alike hh0, s1.there X0.warmed.alike hh0, hz, l0, by omega, l2, fun i hi => by rw [Nat.zero_add]; exact hp i hi⟩)
  have e0 := Got.mv _ s₁ s _ _ hh0.symm (Vm.Alike.refl _) rfl E3
  obtain rfl := e0.1
  have c4 : Steps p.tables e below (s₁.setTop (entryFrame m #[.ref a, .ref b] 2)) (T3.setTop (mkF m 9 #[.val (.ref a), .val (.ref b)] [])) := g3
  exact ⟨T3, none, _, _, _, X3, by simp, rfl, by omega, (fun _ => rfl), e0, fun fs hl => c4.trans (X3.returnOut hexec hret (hb hbytes d9) hl)⟩
theorem pays {l : Launch} {R : Room} {p : Program} {e : Env} {below : List Frame} {s : State} {sargs : Array Value} {len W : Nat} (a : Addr) (D : Cell) (fV fC : Field) (b : Addr) (A : Cell) (z : Int32) (htab : tab.before sargs s = true) (hfr : 4 ≤ R.frames) (hlo : W + 65 ≤ R.locals) :
    Back l R p e below s sargs yN len W (fun A₁ a₁ => A₁.cells + 1 ≤ R.cells ∧ A₁.slots + A.slots.size ≤ R.slots ∧ P a D fV fC b A z a₁ A₁.U) (fun A₁ _ v₁ B₁ => E a D fV fC A v₁ A₁.U B₁.U ∧ B₁.locs = A₁.locs ++ [⟨a, fC.slot⟩, ⟨a, fV.slot⟩] ∧ B₁.cells = A₁.cells + 1 ∧ B₁.slots = A₁.slots + A.slots.size) :=
  (law l a D fV fC b A z).pays htab hfr (by omega)
end New1
/-- the byte, read back as charAt reads it, is the char -/
theorem lo8_mask {x : Int32} (h0 : ¬ x < 0) (h1 : ¬ 255 < x) : lo8 x &&& 255 = x := by
  have t : ∀ k : Fin 256, lo8 (Int32.ofNat k.val) &&& 255 = Int32.ofNat k.val := by decide +kernel
  rw [Int32.lt_iff_toInt_lt] at h0 h1
  have e0 : (0 : Int32).toInt = 0 := rfl
  have e1 : (255 : Int32).toInt = 255 := rfl
  obtain ⟨k, hk⟩ : ∃ k : Nat, x.toInt = k := ⟨x.toInt.toNat, by omega⟩
  have hx : x = Int32.ofNat k := Int32.toInt_inj.mp (by rw [hk, Int32.toInt_ofNat_small (by omega)])
  rw [hx]
  exact t ⟨k, by omega⟩
end StrChars
namespace StrChars.Road
open Jvm Sem ClassFile Op Lib Jvm.Stand Jvm.Free Jvm.Free.XT
open Jvm.Lib.Cold (StaticIs)
abbrev ST : String := "java/lang/String"
/-- every table word that New1's law asks, flat -/
abbrev words : List Jvm.Cond := [.code New1.yN New1.yB 2 none, .initialized ST, .methodLink ST 27 New4.yN, .instanceMethod New4.yN,
  .code New4.yN New4.yB 6 none, .fieldLink ST 38 ST "COMPACT_STRINGS" "Z", .laysFinal ST ST "value" "[B", .fieldLink ST 9 ST "value" "[B", .laysFinal ST ST "coder" "B", .fieldLink ST 15 ST "coder" "B",
  .methodLink ST 1 Lib.objectInit, .instanceMethod Lib.objectInit, .code Lib.objectInit ⟨#[0xb1]⟩ 1 none, .methodLink ST 177 Cmp3.yN, .static Cmp3.yN, .methodLink ST 47 CodL.yN, .static CodL.yN,
  .code Cmp3.yN Cmp3.yB 6 (some (.array .byte)), .initialized U16, .arrayClass .byte, .methodLink U16 115 Cmp5.yN, .static Cmp5.yN, .code Cmp5.yN Cmp5.yB 7 (some .int), .code CodL.yN CodL.yB 2 (some .byte)]
theorem tab_of {a : Array Value} {s : State} (h : ∀ w ∈ words, w.before a s = true) : New1.tab.before a s = true := by
  have h5 : Cmp5.tab.before a s = true := unparts (wk h (.code Cmp5.yN Cmp5.yB 7 (some .int))) (wks h (.initialized Cmp5.yN.cls :: Cmp5.site))
  have hc : CodL.tab.before a s = true := unparts (wk h (.code CodL.yN CodL.yB 2 (some .byte))) (wks h (.initialized CodL.yN.cls :: CodL.site))
  have q5 : ∀ w ∈ Cmp5.tab :: words, w.before a s = true := fun w hw => (List.mem_cons.mp hw).elim (fun e => e ▸ h5) (h w)
  have h3 : Cmp3.tab.before a s = true := unparts (wk q5 (.code Cmp3.yN Cmp3.yB 6 (some (.array .byte)))) (wks q5 (.initialized Cmp3.yN.cls :: Cmp3.site))
  have q3 : ∀ w ∈ Cmp3.tab :: CodL.tab :: words, w.before a s = true := fun w hw => (List.mem_cons.mp hw).elim (fun e => e ▸ h3) fun hw => (List.mem_cons.mp hw).elim (fun e => e ▸ hc) (h w)
  have h4 : New4.tab.before a s = true := unparts (wk q3 (.code New4.yN New4.yB 6 none)) (wks q3 (.initialized New4.yN.cls :: New4.site))
  have q4 : ∀ w ∈ New4.tab :: words, w.before a s = true := fun w hw => (List.mem_cons.mp hw).elim (fun e => e ▸ h4) (h w)
  exact unparts (wk q4 (.code New1.yN New1.yB 2 none)) (wks q4 (.initialized New1.yN.cls :: New1.site))
/-- the words ride from the start Z to the walk's own state -/
theorem moved {Z s : State} {a0 args : Array Value} (hZ : Z.Warmed39 s.vm) (hw : ∀ d ∈ words, d.before a0 Z = true) : ∀ d ∈ words, d.before args s = true := fun d hd => by
  have q := hw d hd
  have t : ∀ d ∈ words, d = .arrayClass .byte ∨ (d.onTables && d.keepsFace) = true := by decide +kernel
  rcases t d hd with rfl | t
  · exact RoadKit.mvA hZ q
  · exact RoadKit.mv hZ q t
/-- WHAT COMES BACK, over the tables of the start Z: h the heap at the call, h' behind it -/
def Q (Z : State) (x : Addr) (A : Cell) (h : Heap) (v : Option Value) (h' : Heap) (L : List Loc) : Prop := v = none ∧ (∀ y ∈ L, y.base = x) ∧ RoadKit.Keep h h' [x] ∧ h'.size = h.size + 1 ∧ RoadKit.Exa Z h' x ST ∧ RoadKit.Fld Z h' x ST "value" "[B" (.ref h.size) ∧ RoadKit.Fld Z h' x ST "coder" "B" (.int 0) ∧
  (∃ V : Cell, RoadKit.Arr Z h' h.size V .byte ∧ V.vm = .none ∧ Z.vm.findClass "[B" = some V.cls ∧ V.slots.size = A.slots.size ∧ ∀ j, j < A.slots.size → V.slots[j]? = some (.int (lo8 (cv A j)))) ∧
  ∀ (O n d : String) (w : Value), RoadKit.Fld Z h x O n d w → RoadKit.slotOf Z O n d ≠ RoadKit.slotOf Z ST "value" "[B" → RoadKit.slotOf Z O n d ≠ RoadKit.slotOf Z ST "coder" "B" → RoadKit.Fld Z h' x O n d w
/-- **new String(chars) AT A CALL, IN THE ROAD'S FORM**: for specialBack behind newO: x the fresh String, b the char[] with the cell A -/
theorem back {p : Program} {l : Launch} {e : Env} {R : Room} {s : State} {args : Array Value} {below : List Frame} {len W : Nat} {Z : State} {a0 : Array Value} {h : Heap} (hZ : Z.Warmed39 s.vm) (hw : ∀ d ∈ words, d.before a0 Z = true) {kI : Nat} (wi : (Jvm.Cond.instantiable ST kI).before a0 Z = true)
    {x b : Addr} {A : Cell} {z : Int32} {v0 c0 : Value} (E : RoadKit.Exa Z h x ST) (V : RoadKit.Fld Z h x ST "value" "[B" v0) (C : RoadKit.Fld Z h x ST "coder" "B" c0) (K : RoadKit.Arr Z h b A .char) (hty : Typed .char A) (S : RoadKit.Sta Z h ST "COMPACT_STRINGS" "Z" (.int z)) (hz : ¬ z = 0)
    (l0 : 0 < A.slots.size) (l2 : A.slots.size ≤ 536870912) (hp : ∀ i, i < A.slots.size → ¬ 255 < cv A i) (hfr : 4 ≤ R.frames) (hlo : W + 65 ≤ R.locals) :
    Back l R p e below s args New1.yN len W (fun P a => a = #[.ref x, .ref b] ∧ P.U.heap = h ∧ P.cells + 1 ≤ R.cells ∧ P.slots + A.slots.size ≤ R.slots)
      (fun P _ v B => ∃ L, Q Z x A h v B.U.heap L ∧ B.locs = P.locs ++ L ∧ B.cells = P.cells + 1 ∧ B.slots = P.slots + A.slots.size) := by
  intro m meth c P g ig mk a X hg hsize hdg hW hn hp'
  obtain ⟨rfl, rfl, r1, r2⟩ := hp'
  have al : Z.vm.Alike P.U.vm := hZ.alike.trans X.warmed.alike
  obtain ⟨D, cfV, kV, iV, fV, hD, gV, stV, knV, obV, asV, slV⟩ := id V
  obtain ⟨D', cfC, kC, iC, fC, hD', gC, stC, -, -, asC, slC⟩ := id C
  cases hD.symm.trans hD'
  obtain ⟨D2, kD, e1, e2, e3, e4, e5⟩ := id E
  cases hD.symm.trans e1
  obtain ⟨c2, k2, i1, i2, i3, -⟩ := Cond.instantiable_spec wi
  cases e2.symm.trans i1
  cases e3.symm.trans i2
  obtain ⟨kU, u1, u2⟩ := al.2.2 _ _ e3
  have hB : Blank ST x D P.U := ⟨hD, ⟨knV, fun q hq => by rw [hq] at obV; cases obV⟩, by rw [al.findClass]; exact e2, kU, u1, by rw [u2]; exact i3, by rw [u2]; exact e5 i3⟩
  have F1 : Found ST "value" "[B" fV P.U := ⟨SBG.found_only al ⟨cfV, kV, iV, gV⟩, stV⟩
  have F2 : Found ST "coder" "B" fC P.U := ⟨SBG.found_only al ⟨cfC, kC, iC, gC⟩, stC⟩
  have hA : Ch b A P.U := ⟨⟨K.1, State.isArrayOf_alike al K.2.1, K.2.2, by omega⟩, hty⟩
  have hS : StaticIs P.U ST "COMPACT_STRINGS" "Z" (.int z) := by
    obtain ⟨cfS, iS, kS, fS, st, cS, t1, t2, t3, t4, t5, t6, t7⟩ := S
    exact StaticIs.there (s := { Z with heap := P.U.heap }) ⟨cfS, iS, kS, fS, st, cS, t1, t2, t3, t4, t5, (fun q => by rw [q] at t6; cases t6), t7⟩ al rfl
  obtain ⟨v, B, X', ⟨⟨hv, E', V', q1, q2, q3, q4, q5, q6, q7, q8, q9, q10, q11⟩, hl, hc, hs⟩, st⟩ := New1.pays x D fV fC b A z (tab_of (moved hZ hw)) hfr hlo m meth c P g ig mk _ X hg hsize hdg hW hn ⟨r1, r2, rfl, hB, F1, F2, hA, hS, hz, l0, l2, hp⟩
  have al' : Z.vm.Alike B.U.vm := hZ.alike.trans X'.warmed.alike
  have hsz : E'.slots.size = D.slots.size := by
    obtain ⟨-, -, -, kB, w1, w2, w3⟩ := q1
    obtain ⟨kB', y1, y2⟩ := al'.2.2 _ _ e3
    rw [q2.2.1] at w1
    cases w1.symm.trans y1
    rw [w3, e5 i3, y2]
  refine ⟨v, B, X', ⟨_, ⟨hv, ?_, ⟨by omega, fun y cy hy hn' => q10 y cy (by simpa using hn') hy, fun y cy hy => ?_⟩, q11, ⟨E', _, q1.1, by rw [q2.2.1]; exact e2, by rw [q2.2.1]; exact e3, by rw [q2.1]; exact obV, fun _ => by rw [hsz]; exact e5 i3⟩,
    ⟨E', cfV, kV, iV, fV, q1.1, gV, stV, by rw [q2.1]; exact knV, by rw [q2.1]; exact obV, by rw [q2.2.1]; exact asV, q3⟩, ⟨E', cfC, kC, iC, fC, q1.1, gC, stC, by rw [q2.1]; exact knV, by rw [q2.1]; exact obV, by rw [q2.2.1]; exact asC, q4⟩,
    ⟨V', ⟨q5.1, State.isArrayOf_alike al'.symm q5.2.1, q5.2.2.1⟩, q6, by rw [← al'.findClass]; exact q7, q8, fun j hj => by have := q9 j hj; rwa [Nat.zero_add] at this⟩, fun O n d w F n1 n2 => ?_⟩, hl, hc, hs⟩, st⟩
  · intro y hy
    simp only [List.mem_cons, List.not_mem_nil, or_false] at hy
    rcases hy with rfl | rfl <;> rfl
  · by_cases q : y = x
    · subst q
      cases hD.symm.trans hy
      exact ⟨E', q1.1, q2.2.1, q2.1, hsz⟩
    · exact ⟨cy, q10 y cy q hy, rfl, rfl, rfl⟩
  · obtain ⟨D3, cf, k, i, f, g1, g2, g3, g4, g5, g6, g7⟩ := F
    cases hD.symm.trans g1
    simp only [RoadKit.slotOf, g2, gV, gC, Option.map_some, Option.getD_some] at n1 n2
    exact ⟨E', cf, k, i, f, q1.1, g2, g3, by rw [q2.1]; exact g4, by rw [q2.1]; exact g5, by rw [q2.2.1]; exact g6, by rw [q2.2.2 f.slot (by simp [n1, n2])]; exact g7⟩
end StrChars.Road
namespace StrChars.Road
open Jvm Sem ClassFile Op Lib Jvm.Stand Jvm.Free Jvm.Free.XT
/-- WHAT COMES BACK, the byte[] as a list of values -/
def QA (Z : State) (x : Addr) (zn : Int32) (cs : List Int32) (h : Heap) (v : Option Value) (h' : Heap) (L : List Loc) : Prop := v = none ∧ (∀ y ∈ L, y.base = x) ∧ RoadKit.Keep h h' [x] ∧ h'.size = h.size + 1 ∧ RoadKit.Exa Z h' x ST ∧ RoadKit.Fld Z h' x ST "value" "[B" (.ref h.size) ∧ RoadKit.Fld Z h' x ST "coder" "B" (.int 0) ∧
  (∃ kb, Z.vm.findClass "[B" = some kb ∧ RoadKit.Arv Z h' h.size kb .byte zn (cs.map fun c => .int (lo8 c)) (.int 0)) ∧
  ∀ (O n d : String) (w : Value), RoadKit.Fld Z h x O n d w → RoadKit.slotOf Z O n d ≠ RoadKit.slotOf Z ST "value" "[B" → RoadKit.slotOf Z O n d ≠ RoadKit.slotOf Z ST "coder" "B" → RoadKit.Fld Z h' x O n d w
/-- **new String(chars) AT A CALL, THE ARRAYS AS LISTS**: the char[] at b holds cs, not empty, no char above 255 -/
theorem backArv {p : Program} {l : Launch} {e : Env} {R : Room} {s : State} {args : Array Value} {below : List Frame} {len W : Nat} {Z : State} {a0 : Array Value} {h : Heap} (hZ : Z.Warmed39 s.vm) (hw : ∀ d ∈ words, d.before a0 Z = true) {kI : Nat} (wi : (Jvm.Cond.instantiable ST kI).before a0 Z = true)
    {x b : Addr} {k : ClassId} {zn z : Int32} {cs : List Int32} {dv v0 c0 : Value} (E : RoadKit.Exa Z h x ST) (V : RoadKit.Fld Z h x ST "value" "[B" v0) (C : RoadKit.Fld Z h x ST "coder" "B" c0) (K : RoadKit.Arv Z h b k .char zn (cs.map Value.int) dv) (S : RoadKit.Sta Z h ST "COMPACT_STRINGS" "Z" (.int z)) (hz : ¬ z = 0)
    (hlen : zn.toNatClampNeg = cs.length) (h0 : 0 < cs.length) (hbig : cs.length ≤ 536870912) (hall : ∀ c ∈ cs, ¬ 255 < c) (hfr : 4 ≤ R.frames) (hlo : W + 65 ≤ R.locals) :
    Back l R p e below s args New1.yN len W (fun P a => a = #[.ref x, .ref b] ∧ P.U.heap = h ∧ P.cells + 1 ≤ R.cells ∧ P.slots + cs.length ≤ R.slots)
      (fun P _ v B => ∃ L, QA Z x zn cs h v B.U.heap L ∧ B.locs = P.locs ++ L ∧ B.cells = P.cells + 1 ∧ B.slots = P.slots + cs.length) := by
  obtain ⟨A, K1, K2, K3, K4, K5, K6⟩ := K
  have e : A.slots.size = cs.length := K3.trans hlen
  have hat : ∀ (i : Nat) (hi : i < cs.length), A.slots[i]? = some (.int cs[i]) := fun i hi => by rw [K5 i (by omega)]; simp [List.getD_eq_getElem?_getD, hi]
  have hcv : ∀ (i : Nat) (hi : i < cs.length), cv A i = cs[i] := fun i hi => by unfold cv; rw [hat i hi]
  have hty : Typed .char A := fun i v hv => by
    have hi : i < A.slots.size := (Array.getElem?_eq_some_iff.mp hv).1
    have q := K5 i hi
    rw [hv] at q
    rw [Option.some.inj q]
    exact K6 i hi
  refine Back.mono (back hZ hw wi E V C K1 hty S hz (by omega) (by omega) (fun i hi => by rw [hcv i (by omega)]; exact hall _ (List.getElem_mem _)) hfr hlo) (fun P a hp => ⟨hp.1, hp.2.1, hp.2.2.1, by rw [e]; exact hp.2.2.2⟩) (fun P a v B hp hq => ?_)
  obtain ⟨L, ⟨q1, q2, q3, q4, q5, q6, q7, ⟨V', v1, v2, v3, v4, v5⟩, q9⟩, hl, hc, hs⟩ := hq
  refine ⟨L, ⟨q1, q2, q3, q4, q5, q6, q7, ⟨V'.cls, v3, V', v1, rfl, by rw [v4, e, hlen], K4, fun i hi => ?_, fun i hi => ?_⟩, q9⟩, hl, hc, by rw [hs, e]⟩
  · have hi' : i < cs.length := by omega
    rw [v5 i (by omega), hcv i hi']; simp [List.getD_eq_getElem?_getD, hi']
  · have hi' : i < cs.length := by omega
    simp only [List.getD_eq_getElem?_getD, List.getElem?_map, List.getElem?_eq_getElem hi', Option.map_some, Option.getD_some]
    exact fits_lo8 _
end StrChars.Road
namespace StrChars.Road
open Jvm Sem ClassFile Op Lib Jvm.Stand Jvm.Free Jvm.Free.XT
/-- WHAT COMES BACK, in the writer's own shape -/
def QV (Z : State) (x : Addr) (N : Int32) (bs : List Int32) (h : Heap) (n0 : Nat) (v : Option Value) (h' : Heap) (L : List Loc) : Prop := v = none ∧ RoadKit.Fr n0 L ∧ RoadKit.Keep h h' [x] ∧ RoadKit.Exa Z h' x ST ∧ RoadKit.Fld Z h' x ST "coder" "B" (.int 0) ∧
  ∃ (t : Addr) (kb : ClassId), n0 ≤ t ∧ h.size ≤ t ∧ ¬ t = x ∧ RoadKit.Fld Z h' x ST "value" "[B" (.ref t) ∧ RoadKit.Arv Z h' t kb .byte N (bs.map Value.int) (.int 0)
/-- **new String(chars) AT A CALL, FOR THE WRITER**: a char[] of n known ints, each 0 to 255 -/
theorem backV {p : Program} {l : Launch} {e : Env} {R : Room} {s : State} {args : Array Value} {below : List Frame} {len W : Nat} {Z : State} {a0 : Array Value} {h : Heap} (hZ : Z.Warmed39 s.vm) (hw : ∀ d ∈ words, d.before a0 Z = true) {kI : Nat} (wi : (Jvm.Cond.instantiable ST kI).before a0 Z = true)
    {x b : Addr} {kC : ClassId} {cs bs : List Int32} {d v0 c0 : Value} {z N : Int32} {n n0 : Nat} (hx0 : n0 ≤ x) (hh0 : n0 ≤ h.size) (E : RoadKit.Exa Z h x ST) (V : RoadKit.Fld Z h x ST "value" "[B" v0) (C : RoadKit.Fld Z h x ST "coder" "B" c0) (K : RoadKit.Arv Z h b kC .char N (cs.map Value.int) d) (S : RoadKit.Sta Z h ST "COMPACT_STRINGS" "Z" (.int z)) (hz : ¬ z = 0)
    (hn : cs.length = n) (hN : N = Int32.ofNat n) (l0 : 0 < n) (l2 : n ≤ 4000) (hp : ∀ c ∈ cs, ¬ c < 0 ∧ ¬ (255 : Int32) < c) (hb : bs = cs.map (fun c => c.toInt8.toInt32)) (hfr : 4 ≤ R.frames) (hlo : W + 65 ≤ R.locals) :
    Back l R p e below s args (⟨"java/lang/String", "<init>", "([C)V"⟩ : MethodName) len W (fun P a => a = #[.ref x, .ref b] ∧ P.U.heap = h ∧ P.cells + 1 ≤ R.cells ∧ P.slots + n ≤ R.slots)
      (fun P _ v B => ∃ L, QV Z x N bs h n0 v B.U.heap L ∧ B.locs = P.locs ++ L ∧ B.cells = P.cells + 1 ∧ B.slots = P.slots + n) := by
  subst hn hN hb
  refine Back.mono (backArv hZ hw wi E V C K S hz (n32 (by omega)) l0 (by omega) (fun c hc => (hp c hc).2) hfr hlo) (fun P a hp => hp) (fun P a v B hp hq => ?_)
  obtain ⟨L, ⟨q1, q2, q3, q4, q5, q6, q7, ⟨kb, v1, v2⟩, q9⟩, hl, hc, hs⟩ := hq
  exact ⟨L, ⟨q1, fun y hy => by rw [q2 y hy]; exact hx0, q3, q5, q7, h.size, kb, hh0, Nat.le_refl _, Nat.ne_of_gt E.lt, q6, by rw [List.map_map]; exact v2⟩, hl, hc, hs⟩
end StrChars.Road
namespace StrChars
open Jvm Sem ClassFile Op Lib Jvm.Stand Jvm.Free.XT Jvm.Free.ALB Jvm.Free.JM Jvm.Free
open Jvm.Lib.Cold (StaticIs)
def hi8 (x : Int32) : Int32 := lo8 (x >>> ((8 : Int32) &&& 31))
/-- what StringUTF16.getChar makes of two bytes -/
def pairCh (u v : Int32) : Int32 := (((u &&& 255) <<< ((0 : Int32) &&& 31)) ||| ((v &&& 255) <<< ((8 : Int32) &&& 31))).toUInt32.toUInt16.toUInt32.toInt32
theorem lo8_and (x : Int32) : (lo8 x &&& 255).toBitVec.toNat = x.toBitVec.toNat % 256 := by
  have h : (lo8 x).toBitVec = (x.toBitVec.signExtend 8).signExtend 32 := by rw [lo8, Int8.toBitVec_toInt32, Int32.toBitVec_toInt8]
  rw [Int32.toBitVec_and, BitVec.toNat_and, h]
  have e : ((x.toBitVec.signExtend 8).signExtend 32).toNat % 256 = x.toBitVec.toNat % 256 := by
    rw [BitVec.toNat_signExtend]
    have hlt := x.toBitVec.isLt
    simp only [BitVec.toNat_setWidth, BitVec.toNat_signExtend]
    split <;> split <;> omega
  rw [← e]
  exact Nat.and_two_pow_sub_one_eq_mod _ 8
theorem pair_says {c : Int32} (h0 : ¬ c < 0) (h1 : ¬ 65535 < c) : pairCh (lo8 c) (hi8 c) = c := by
  rw [Int32.lt_iff_toInt_lt] at h0 h1
  have e0 : (0 : Int32).toInt = 0 := rfl
  have e1 : (65535 : Int32).toInt = 65535 := rfl
  have hc : c.toInt = c.toBitVec.toNat := by
    have := c.toBitVec.isLt
    have e : c.toInt = c.toBitVec.toInt := rfl
    rw [e] at h0 h1
    rw [e]
    rw [BitVec.toInt_eq_toNat_cond] at h0 h1 ⊢
    split at h0 <;> split <;> omega
  have hn : c.toBitVec.toNat < 65536 := by omega
  have a1 := lo8_and c
  have a2 : (hi8 c &&& 255).toBitVec.toNat = c.toBitVec.toNat / 256 := by
    rw [hi8, lo8_and]
    have e : ((8 : Int32) &&& 31) = 8 := by decide
    rw [e, Int32.toBitVec_shiftRight]
    have e2 : ((8 : Int32).toBitVec.smod 32) = 8#32 := by decide
    rw [e2, BitVec.sshiftRight_eq', BitVec.toNat_sshiftRight_of_msb_false (by rw [BitVec.msb_eq_false_iff_two_mul_lt]; omega)]
    show c.toBitVec.toNat >>> 8 % 256 = _
    rw [Nat.shiftRight_eq_div_pow]
    omega
  unfold pairCh
  apply Int32.toBitVec_inj.mp
  apply BitVec.eq_of_toNat_eq
  have f0 : ((0 : Int32) &&& 31) = 0 := by decide
  have f8 : ((8 : Int32) &&& 31) = 8 := by decide
  rw [f0, f8]
  have g : (((lo8 c &&& 255) <<< (0 : Int32)) ||| ((hi8 c &&& 255) <<< (8 : Int32))).toBitVec.toNat = c.toBitVec.toNat := by
    rw [Int32.toBitVec_or, Int32.toBitVec_shiftLeft, Int32.toBitVec_shiftLeft]
    have s0 : ((0 : Int32).toBitVec.smod 32) = 0#32 := by decide
    have s8 : ((8 : Int32).toBitVec.smod 32) = 8#32 := by decide
    rw [s0, s8, BitVec.toNat_or]
    simp only [BitVec.shiftLeft_eq', BitVec.toNat_shiftLeft, a1, a2]
    show (c.toBitVec.toNat % 256) <<< 0 % 2 ^ 32 ||| (c.toBitVec.toNat / 256) <<< 8 % 2 ^ 32 = _
    rw [Nat.shiftLeft_zero, Nat.mod_eq_of_lt (show c.toBitVec.toNat % 256 < 2 ^ 32 by omega), Nat.mod_eq_of_lt (show (c.toBitVec.toNat / 256) <<< 8 < 2 ^ 32 by rw [Nat.shiftLeft_eq]; omega), Nat.or_comm, ← Nat.shiftLeft_add_eq_or_of_lt (by omega), Nat.shiftLeft_eq]
    omega
  show BitVec.toNat (((((lo8 c &&& 255) <<< (0 : Int32)) ||| ((hi8 c &&& 255) <<< (8 : Int32))).toBitVec.setWidth 16).setWidth 32) = _
  rw [BitVec.toNat_setWidth, BitVec.toNat_setWidth, g]
  omega
end StrChars
namespace StrChars
open Jvm Sem ClassFile Op Lib Jvm.Stand Jvm.Free.XT Jvm.Free.ALB Jvm.Free.JM Jvm.Free
open Jvm.Lib.Cold (StaticIs)
/-- the array's cell V codes the n chars f 0 .. f (n - 1) by the coder cd, as the JDK does: coder 1 just where some char is above 255 -/
def Cod (cd : Int32) (n : Nat) (f : Nat → Int32) (V : Cell) : Prop := (cd = 0 ∧ V.slots.size = n ∧ ∀ j, j < n → V.slots[j]? = some (.int (lo8 (f j))) ∧ ¬ 255 < f j) ∨ (cd = 1 ∧ V.slots.size = 2 * n ∧ (∀ j, j < n → V.slots[2 * j]? = some (.int (lo8 (f j))) ∧ V.slots[2 * j + 1]? = some (.int (hi8 (f j)))) ∧ ∃ j, j < n ∧ 255 < f j)
/-- **x is a String of the n chars f 0 .. f (n - 1)**, Latin-1 or UTF-16; its array at t has the cell V -/
def Txt (x t : Addr) (V : Cell) (cd : Int32) (n : Nat) (f : Nat → Int32) (U : State) : Prop := Exact "java/lang/String" x U ∧ Has x "java/lang/String" "value" "[B" (.ref t) U ∧ Has x "java/lang/String" "coder" "B" (.int cd) U ∧ XT.Arr .byte t V U ∧ Cod cd n f V ∧ ∀ j, j < n → ¬ f j < 0 ∧ ¬ 65535 < f j
theorem Txt.mv {x t : Addr} {V : Cell} {cd : Int32} {n : Nat} {f : Nat → Int32} {U U' : State} (h : Txt x t V cd n f U) (hal : U.vm.Alike U'.vm) (hh : U'.heap = U.heap) : Txt x t V cd n f U' := ⟨h.1.mv hal hh, h.2.1.mv hal hh, h.2.2.1.mv hal hh, h.2.2.2.1.mv hal hh, h.2.2.2.2⟩
end StrChars
namespace StrChars.Road
open Jvm Sem ClassFile Op Lib Jvm.Stand Jvm.Free Jvm.Free.XT
open Jvm.Lib.Cold (StaticIs)
theorem consq {a : Array Value} {s : State} {c : Jvm.Cond} {L : List Jvm.Cond} (h0 : c.before a s = true) (h : ∀ w ∈ L, w.before a s = true) : ∀ w ∈ c :: L, w.before a s = true := fun w hw => (List.mem_cons.mp hw).elim (fun e => e ▸ h0) (h w)
/-- the bytes of the chars cs, low before high -/
def wideBytes : List Int32 → List Value
  | [] => []
  | c :: cs => .int (lo8 c) :: .int (hi8 c) :: wideBytes cs
theorem wide_lo (d : Value) : ∀ (cs : List Int32) (j : Nat), j < cs.length → (wideBytes cs).getD (2 * j) d = .int (lo8 (cs.getD j 0))
  | [], j, h => absurd h (Nat.not_lt_zero j)
  | c :: cs, 0, _ => rfl
  | c :: cs, j + 1, h => by
    have q := wide_lo d cs j (by simpa using h)
    rw [show 2 * (j + 1) = 2 * j + 1 + 1 from by omega]
    simpa [wideBytes] using q
theorem wide_hi (d : Value) : ∀ (cs : List Int32) (j : Nat), j < cs.length → (wideBytes cs).getD (2 * j + 1) d = .int (hi8 (cs.getD j 0))
  | [], j, h => absurd h (Nat.not_lt_zero j)
  | c :: cs, 0, _ => rfl
  | c :: cs, j + 1, h => by
    have q := wide_hi d cs j (by simpa using h)
    rw [show 2 * (j + 1) + 1 = 2 * j + 1 + 1 + 1 from by omega]
    simpa [wideBytes] using q
theorem low_at (d : Value) (cs : List Int32) (j : Nat) (h : j < cs.length) : (cs.map fun c => Value.int (lo8 c)).getD j d = .int (lo8 (cs.getD j 0)) := by
  simp [List.getD_eq_getElem?_getD, h]
/-- an array of N2 bytes vs codes the chars cs by the coder cd -/
def CodA (cs : List Int32) (cd N2 : Int32) (vs : List Value) : Prop := (cd = 0 ∧ N2 = Int32.ofNat cs.length ∧ vs = (cs.map fun c => Value.int (lo8 c)) ∧ ∀ c ∈ cs, ¬ 255 < c) ∨ (cd = 1 ∧ N2 = Int32.ofNat (2 * cs.length) ∧ vs = wideBytes cs ∧ ∃ c ∈ cs, 255 < c)
theorem CodA.cod {cs : List Int32} {cd N2 : Int32} {vs : List Value} {V : Cell} (h : CodA cs cd N2 vs) (hn : 2 * cs.length < 2 ^ 31) (hs : V.slots.size = N2.toNatClampNeg) (hv : RoadKit.Has V vs (.int 0)) : Cod cd cs.length (fun j => cs.getD j 0) V := by
  rcases h with ⟨rfl, rfl, rfl, h⟩ | ⟨rfl, rfl, rfl, c, hc, hw⟩
  · rw [n32 (by omega)] at hs
    exact Or.inl ⟨rfl, hs, fun j hj => ⟨by rw [hv j (by omega), low_at _ _ _ hj], by
      have e : cs.getD j 0 = cs[j] := by simp [List.getD_eq_getElem?_getD, hj]
      show ¬ 255 < cs.getD j 0
      rw [e]; exact h _ (List.getElem_mem _)⟩⟩
  · rw [n32 (by omega)] at hs
    obtain ⟨j, hj, rfl⟩ := List.getElem_of_mem hc
    exact Or.inr ⟨rfl, hs, fun j hj => ⟨by rw [hv _ (by omega), wide_lo _ _ _ hj], by rw [hv _ (by omega), wide_hi _ _ _ hj]⟩, j, hj, by
      have e : cs.getD j 0 = cs[j] := by simp [List.getD_eq_getElem?_getD, hj]
      show 255 < cs.getD j 0
      rw [e]; exact hw⟩
/-- an object of exactly java/lang/String, its two fields found: as the laws ask it -/
theorem strObj {Z U : State} {a0 : Array Value} {kI : Nat} (wi : (Jvm.Cond.instantiable ST kI).before a0 Z = true) (al : Z.vm.Alike U.vm) {x : Addr} {v0 c0 : Value} (E : RoadKit.Exa Z U.heap x ST) (V : RoadKit.Fld Z U.heap x ST "value" "[B" v0) (C : RoadKit.Fld Z U.heap x ST "coder" "B" c0) :
    ∃ (D : Cell) (fV fC : Field), Blank ST x D U ∧ Found ST "value" "[B" fV U ∧ Found ST "coder" "B" fC U ∧ D.slots[fV.slot]? = some v0 ∧ D.slots[fC.slot]? = some c0 ∧ RoadKit.slotOf Z ST "value" "[B" = fV.slot ∧ RoadKit.slotOf Z ST "coder" "B" = fC.slot := by
  obtain ⟨D, cfV, kV, iV, fV, hD, gV, stV, knV, obV, asV, slV⟩ := V
  obtain ⟨D', cfC, kC, iC, fC, hD', gC, stC, -, -, asC, slC⟩ := C
  cases hD.symm.trans hD'
  obtain ⟨D2, kD, e1, e2, e3, e4, e5⟩ := E
  cases hD.symm.trans e1
  obtain ⟨c2, k2, i1, i2, i3, -⟩ := Cond.instantiable_spec wi
  cases e2.symm.trans i1
  cases e3.symm.trans i2
  obtain ⟨kU, u1, u2⟩ := al.2.2 _ _ e3
  exact ⟨D, fV, fC, ⟨hD, ⟨knV, fun q hq => by rw [hq] at obV; cases obV⟩, by rw [al.findClass]; exact e2, kU, u1, by rw [u2]; exact i3, by rw [u2]; exact e5 i3⟩, ⟨SBG.found_only al ⟨cfV, kV, iV, gV⟩, stV⟩, ⟨SBG.found_only al ⟨cfC, kC, iC, gC⟩, stC⟩, slV, slC, by simp [RoadKit.slotOf, gV], by simp [RoadKit.slotOf, gC]⟩
theorem sta_is {Z U : State} (al : Z.vm.Alike U.vm) {C n d : String} {v : Value} (S : RoadKit.Sta Z U.heap C n d v) : StaticIs U C n d v := by
  obtain ⟨cfS, iS, kS, fS, st, cS, t1, t2, t3, t4, t5, t6, t7⟩ := S
  exact StaticIs.there (s := { Z with heap := U.heap }) ⟨cfS, iS, kS, fS, st, cS, t1, t2, t3, t4, t5, (fun q => by rw [q] at t6; cases t6), t7⟩ al rfl
end StrChars.Road
namespace StrChars
open Jvm Sem ClassFile Op Lib Jvm.Stand Jvm.Free.XT Jvm.Free.ALB Jvm.Free.JM Jvm.Free
open Jvm.Lib.Cold (StaticIs)
/-- what place i of a byte[]'s cell holds -/
def yv (A : Cell) (i : Nat) : Int32 := match A.slots[i]? with | some (.int x) => x | _ => 0
theorem yv_get {a : Addr} {A : Cell} {U : State} (h : XT.Arr .byte a A U) (ht : Typed .byte A) {i : Nat} (hi : i < A.slots.size) : A.slots[i]? = some (.int (yv A i)) := by
  have e := Array.getElem?_eq_getElem hi
  have f := ht i _ e
  unfold yv; rw [e]
  generalize A.slots[i] = v at f
  cases v <;> simp [fits] at f ⊢
/-- the two arrays are equal, place for place -/
def EqC (A B : Cell) : Prop := A.slots.size = B.slots.size ∧ ∀ i, i < A.slots.size → yv A i = yv B i
/-- a boolean that says whether p -/
def Says01 (q : Prop) (r : Option Value) (s u : State) : Prop := ∃ v : Int32, r = some (.int v) ∧ u.heap = s.heap ∧ ((v = 1 ∧ q) ∨ (v = 0 ∧ ¬ q))
theorem Says01.mv {q : Prop} : ∀ r (U U' V V' : State), U'.heap = U.heap → V.vm.Alike V'.vm → V'.heap = V.heap → Says01 q r U V → Says01 q r U' V' :=
  fun r U U' V V' h1 _ h2 ⟨v, a, b, c⟩ => ⟨v, a, by rw [h1, h2]; exact b, c⟩
namespace LEq
def yN : MethodName := ⟨"java/lang/StringLatin1", "equals", "([B[B)Z"⟩
abbrev yB : ByteArray := jdk_43_method_13_code
theorem d0 : decode yB 0 = .ok (.aload_n 0, 1) := by decide +kernel
theorem d1 : decode yB 1 = .ok (.arraylength, 1) := by decide +kernel
theorem d2 : decode yB 2 = .ok (.aload_n 1, 1) := by decide +kernel
theorem d3 : decode yB 3 = .ok (.arraylength, 1) := by decide +kernel
theorem d4 : decode yB 4 = .ok (.if_icmp (.ne) 30, 3) := by decide +kernel
theorem d7 : decode yB 7 = .ok (.iconst 0, 1) := by decide +kernel
theorem d8 : decode yB 8 = .ok (.istore_n 2, 1) := by decide +kernel
theorem d9 : decode yB 9 = .ok (.iload_n 2, 1) := by decide +kernel
theorem d10 : decode yB 10 = .ok (.aload_n 0, 1) := by decide +kernel
theorem d11 : decode yB 11 = .ok (.arraylength, 1) := by decide +kernel
theorem d12 : decode yB 12 = .ok (.if_icmp (.ge) 20, 3) := by decide +kernel
theorem d15 : decode yB 15 = .ok (.aload_n 0, 1) := by decide +kernel
theorem d16 : decode yB 16 = .ok (.iload_n 2, 1) := by decide +kernel
theorem d17 : decode yB 17 = .ok (.baload, 1) := by decide +kernel
theorem d18 : decode yB 18 = .ok (.aload_n 1, 1) := by decide +kernel
theorem d19 : decode yB 19 = .ok (.iload_n 2, 1) := by decide +kernel
theorem d20 : decode yB 20 = .ok (.baload, 1) := by decide +kernel
theorem d21 : decode yB 21 = .ok (.if_icmp (.eq) 5, 3) := by decide +kernel
theorem d24 : decode yB 24 = .ok (.iconst 0, 1) := by decide +kernel
theorem d25 : decode yB 25 = .ok (.ireturn, 1) := by decide +kernel
theorem d26 : decode yB 26 = .ok (.iinc 2 1, 3) := by decide +kernel
theorem d29 : decode yB 29 = .ok (.goto (-20), 3) := by decide +kernel
theorem d32 : decode yB 32 = .ok (.iconst 1, 1) := by decide +kernel
theorem d33 : decode yB 33 = .ok (.ireturn, 1) := by decide +kernel
theorem d34 : decode yB 34 = .ok (.iconst 0, 1) := by decide +kernel
theorem d35 : decode yB 35 = .ok (.ireturn, 1) := by decide +kernel
def site : List Cond := []
def tab : Cond := tabOf yN yB 3 (some .boolean) site
def P (a : Addr) (A : Cell) (b : Addr) (B : Cell) (args : Array Value) (s : State) : Prop := args = #[.ref a, .ref b] ∧ XT.Arr .byte a A s ∧ Typed .byte A ∧ XT.Arr .byte b B s ∧ Typed .byte B
/-- whether two byte[] are equal, place for place -/
theorem law (l : Launch) (a : Addr) (A : Cell) (b : Addr) (B : Cell) : Law l yN 2 2 0 0 yB 3 (some .boolean) site (P a A b B) (Says01 (EqC A B)) [] 0 0 := by
  refine Law.of_walk (plainFor_of_name (by decide +kernel)) (by decide +kernel) (by decide +kernel) (by decide) (fun _ _ h => by rw [h.1]; rfl) (fun _ U U' hal hh h => ⟨h.1, h.2.1.mv hal hh, h.2.2.1, h.2.2.2.1.mv hal hh, h.2.2.2.2⟩) (fun r U U' V V' h1 hal h2 h => Says01.mv r U U' V V' h1 hal h2 h) ?_
  intro p e s m args below meth c s₁ X0 hexec hbytes hml hret hlk hnm hown hh0 W hP
  obtain ⟨rfl, hA, tA, hB, tB⟩ := hP
  have a31 := hA.2.2.2
  have b31 := hB.2.2.2
  have hA0 := hA.mv X0.warmed.alike hh0
  have hB0 := hB.mv X0.warmed.alike hh0
  have c1 : Steps p.tables e below (s₁.setTop (entryFrame m #[.ref a, .ref b] 3)) (s₁.setTop (mkF m 0 #[.val (.ref a), .val (.ref b), .unset] [])) := entry rfl
  have c2 : Steps p.tables e below (s₁.setTop (entryFrame m #[.ref a, .ref b] 3)) (s₁.setTop (mkF m 4 #[.val (.ref a), .val (.ref b), .unset] [.int (Int32.ofNat B.slots.size), .int (Int32.ofNat A.slots.size)])) := c1.trans (by
    refine XS.aloadN X0.here hexec rfl (hb hbytes d0) rfl rfl ?_
    refine X0.alen hexec hA0 rfl rfl (hb hbytes d1) ?_
    refine XS.aloadN X0.here hexec rfl (hb hbytes d2) rfl rfl ?_
    refine X0.alen hexec hB0 rfl rfl (hb hbytes d3) ?_
    exact Steps.refl _)
  by_cases hs : A.slots.size = B.slots.size
  · have c3 : Steps p.tables e below (s₁.setTop (entryFrame m #[.ref a, .ref b] 3)) (s₁.setTop (mkF m 9 #[.val (.ref a), .val (.ref b), .val (.int 0)] [])) := c2.trans (by
      refine XS.icmpNo X0.here hexec rfl (hb hbytes d4) rfl (ii_ne_f (by rw [hs])) ?_
      refine iconstV X0.here hexec rfl 0 (hb hbytes d7) (by decide) ?_
      refine XS.istoreN X0.here hexec rfl (hb hbytes d8) rfl rfl ?_
      exact Steps.refl _)
    have loop : ∀ (r i : Nat), i + r = A.slots.size → (∀ j, j < i → yv A j = yv B j) → Steps p.tables e below (s₁.setTop (entryFrame m #[.ref a, .ref b] 3)) (s₁.setTop (mkF m 9 #[.val (.ref a), .val (.ref b), .val (.int (Int32.ofNat i))] [])) → ∃ (pc : Nat) (Ls : Array Slot) (v : Int32), (pc = 25 ∨ pc = 33) ∧ ((v = 1 ∧ EqC A B) ∨ (v = 0 ∧ ¬ EqC A B)) ∧ Steps p.tables e below (s₁.setTop (entryFrame m #[.ref a, .ref b] 3)) (s₁.setTop (mkF m pc Ls [.int v])) := by
      intro r
      induction r with
      | zero =>
        intro i hi he cl
        exact ⟨33, _, 1, Or.inr rfl, Or.inl ⟨rfl, hs, fun j hj => he j (by omega)⟩, cl.trans (by
          refine XS.iloadN X0.here hexec rfl (hb hbytes d9) rfl ?_
          refine XS.aloadN X0.here hexec rfl (hb hbytes d10) rfl rfl ?_
          refine X0.alen hexec hA0 rfl rfl (hb hbytes d11) ?_
          refine XS.icmpYes X0.here hexec rfl (pc0 := 12) rfl (hb hbytes d12) rfl (ii_ge_t (nlt32 (by omega) (by omega))) (by decide) rfl ?_
          refine iconstV X0.here hexec rfl 1 (hb hbytes d32) (by decide) ?_
          exact Steps.refl _)⟩
      | succ r ih =>
        intro i hi he cl
        have c4 : Steps p.tables e below (s₁.setTop (entryFrame m #[.ref a, .ref b] 3)) (s₁.setTop (mkF m 21 #[.val (.ref a), .val (.ref b), .val (.int (Int32.ofNat i))] [.int (yv B i), .int (yv A i)])) := cl.trans (by
          refine XS.iloadN X0.here hexec rfl (hb hbytes d9) rfl ?_
          refine XS.aloadN X0.here hexec rfl (hb hbytes d10) rfl rfl ?_
          refine X0.alen hexec hA0 rfl rfl (hb hbytes d11) ?_
          refine XS.icmpNo X0.here hexec rfl (hb hbytes d12) rfl (ii_ge_f (lt32 (by omega) (by omega))) ?_
          refine XS.aloadN X0.here hexec rfl (hb hbytes d15) rfl rfl ?_
          refine XS.iloadN X0.here hexec rfl (hb hbytes d16) rfl ?_
          refine X0.aget hexec hA0 rfl (yv_get hA tA (i := i) (by omega)) rfl rfl (hb hbytes d17) ?_
          refine XS.aloadN X0.here hexec rfl (hb hbytes d18) rfl rfl ?_
          refine XS.iloadN X0.here hexec rfl (hb hbytes d19) rfl ?_
          refine X0.aget hexec hB0 rfl (yv_get hB tB (i := i) (by omega)) rfl rfl (hb hbytes d20) ?_
          exact Steps.refl _)
        by_cases hv : yv A i = yv B i
        · have c5 : Steps p.tables e below (s₁.setTop (entryFrame m #[.ref a, .ref b] 3)) (s₁.setTop (mkF m 9 #[.val (.ref a), .val (.ref b), .val (.int (Int32.ofNat i + 1))] [])) := c4.trans (by
            refine XS.icmpYes X0.here hexec rfl (pc0 := 21) rfl (hb hbytes d21) rfl (ii_eq_t hv) (by decide) rfl ?_
            refine iincV X0.here hexec rfl 1 (hb hbytes d26) (by decide) rfl rfl ?_
            refine XS.goto X0.here hexec rfl (pc0 := 29) rfl (hb hbytes d29) (by decide) rfl ?_
            exact Steps.refl _)
          rw [succ32] at c5
          exact ih (i + 1) (by omega) (fun j hj => by
            by_cases e : j = i
            · rw [e]; exact hv
            · exact he j (by omega)) c5
        · exact ⟨25, _, 0, Or.inl rfl, Or.inr ⟨rfl, fun q => hv (q.2 i (by omega))⟩, c4.trans (by
            refine XS.icmpNo X0.here hexec rfl (hb hbytes d21) rfl (ii_eq_f hv) ?_
            refine iconstV X0.here hexec rfl 0 (hb hbytes d24) (by decide) ?_
            exact Steps.refl _)⟩
    obtain ⟨pc, Ls, v, hpc, hv, cz⟩ := loop A.slots.size 0 (by omega) (fun j hj => absurd hj (Nat.not_lt_zero j)) c3
    have nv : narrow .boolean (.int v) = .int v := by rcases hv with ⟨rfl, -⟩ | ⟨rfl, -⟩ <;> rfl
    rcases hpc with rfl | rfl
    · exact ⟨s₁, some (.int v), _, _, _, X0, rfl, rfl, rfl, (fun h => by cases h), ⟨v, rfl, hh0, hv⟩, fun fs hl => cz.trans (X0.ireturnOut hexec hret nv (Or.inr (Or.inl rfl)) (hb hbytes d25) hl)⟩
    · exact ⟨s₁, some (.int v), _, _, _, X0, rfl, rfl, rfl, (fun h => by cases h), ⟨v, rfl, hh0, hv⟩, fun fs hl => cz.trans (X0.ireturnOut hexec hret nv (Or.inr (Or.inl rfl)) (hb hbytes d33) hl)⟩
  · have c3 : Steps p.tables e below (s₁.setTop (entryFrame m #[.ref a, .ref b] 3)) (s₁.setTop (mkF m 35 #[.val (.ref a), .val (.ref b), .unset] [.int 0])) := c2.trans (by
      refine XS.icmpYes X0.here hexec rfl (pc0 := 4) rfl (hb hbytes d4) rfl (ii_ne_t (ne32 a31 b31 hs)) (by decide) rfl ?_
      refine iconstV X0.here hexec rfl 0 (hb hbytes d34) (by decide) ?_
      exact Steps.refl _)
    exact ⟨s₁, some (.int 0), _, _, _, X0, rfl, rfl, rfl, (fun h => by cases h), ⟨0, rfl, hh0, Or.inr ⟨rfl, fun q => hs q.1⟩⟩, fun fs hl => c3.trans (X0.ireturnOut hexec hret rfl (Or.inr (Or.inl rfl)) (hb hbytes d35) hl)⟩
end LEq
theorem Cod.ty {cd : Int32} {n : Nat} {f : Nat → Int32} {V : Cell} (h : Cod cd n f V) : Typed .byte V := fun i v hv => by
  have hi : i < V.slots.size := (Array.getElem?_eq_some_iff.mp hv).1
  rcases h with ⟨-, k1, k2⟩ | ⟨-, k1, k2, -⟩
  · rw [(k2 i (by omega)).1] at hv; cases hv; exact fits_lo8 _
  · rcases Nat.mod_two_eq_zero_or_one i with e | e
    · obtain ⟨j, rfl⟩ : ∃ j, i = 2 * j := ⟨i / 2, by omega⟩
      rw [(k2 j (by omega)).1] at hv; cases hv; exact fits_lo8 _
    · obtain ⟨j, rfl⟩ : ∃ j, i = 2 * j + 1 := ⟨i / 2, by omega⟩
      rw [(k2 j (by omega)).2] at hv; cases hv; exact fits_lo8 _
/-- the same text -/
def SameT (n : Nat) (f : Nat → Int32) (k : Nat) (g : Nat → Int32) : Prop := n = k ∧ ∀ j, j < n → f j = g j
theorem lo8_inj {x y : Int32} (h0 : ¬ x < 0) (h1 : ¬ 255 < x) (k0 : ¬ y < 0) (k1 : ¬ 255 < y) (h : lo8 x = lo8 y) : x = y := by
  rw [← lo8_mask h0 h1, ← lo8_mask k0 k1, h]
/-- arrays coded by one coder are equal just where the texts are -/
theorem Cod.eqv {cd : Int32} {n k : Nat} {f g : Nat → Int32} {V V' : Cell} (h : Cod cd n f V) (h' : Cod cd k g V') (hf : ∀ j, j < n → ¬ f j < 0 ∧ ¬ 65535 < f j) (hg : ∀ j, j < k → ¬ g j < 0 ∧ ¬ 65535 < g j) : EqC V V' ↔ SameT n f k g := by
  have yvv : ∀ {W : Cell} {i : Nat} {x : Int32}, W.slots[i]? = some (.int x) → yv W i = x := fun q => by unfold yv; rw [q]
  rcases h with ⟨rfl, k1, k2⟩ | ⟨rfl, k1, k2, -⟩
  · rcases h' with ⟨-, m1, m2⟩ | ⟨e, -⟩
    · constructor
      · rintro ⟨e1, e2⟩
        refine ⟨by omega, fun j hj => ?_⟩
        have q := e2 j (by omega)
        rw [yvv (k2 j hj).1, yvv (m2 j (by omega)).1] at q
        exact lo8_inj (hf j hj).1 (k2 j hj).2 (hg j (by omega)).1 (m2 j (by omega)).2 q
      · rintro ⟨rfl, e2⟩
        refine ⟨by omega, fun j hj => ?_⟩
        rw [yvv (k2 j (by omega)).1, yvv (m2 j (by omega)).1, e2 j (by omega)]
    · exact absurd e (by decide)
  · rcases h' with ⟨e, -⟩ | ⟨-, m1, m2, -⟩
    · exact absurd e (by decide)
    · constructor
      · rintro ⟨e1, e2⟩
        refine ⟨by omega, fun j hj => ?_⟩
        have q1 := e2 (2 * j) (by omega)
        have q2 := e2 (2 * j + 1) (by omega)
        rw [yvv (k2 j hj).1, yvv (m2 j (by omega)).1] at q1
        rw [yvv (k2 j hj).2, yvv (m2 j (by omega)).2] at q2
        rw [← pair_says (hf j hj).1 (hf j hj).2, ← pair_says (hg j (by omega)).1 (hg j (by omega)).2, q1, q2]
      · rintro ⟨rfl, e2⟩
        refine ⟨by omega, fun i hi => ?_⟩
        rcases Nat.mod_two_eq_zero_or_one i with e | e
        · obtain ⟨j, rfl⟩ : ∃ j, i = 2 * j := ⟨i / 2, by omega⟩
          rw [yvv (k2 j (by omega)).1, yvv (m2 j (by omega)).1, e2 j (by omega)]
        · obtain ⟨j, rfl⟩ : ∃ j, i = 2 * j + 1 := ⟨i / 2, by omega⟩
          rw [yvv (k2 j (by omega)).2, yvv (m2 j (by omega)).2, e2 j (by omega)]
/-- two codings differ: so do the texts -/
theorem Cod.dif {cd cd' : Int32} {n k : Nat} {f g : Nat → Int32} {V V' : Cell} (h : Cod cd n f V) (h' : Cod cd' k g V') (hne : ¬ cd = cd') : ¬ SameT n f k g := by
  rintro ⟨rfl, e⟩
  rcases h with ⟨rfl, -, k2⟩ | ⟨rfl, -, -, j, hj, hw⟩
  · rcases h' with ⟨rfl, -⟩ | ⟨-, -, -, j, hj, hw⟩
    · exact hne rfl
    · exact (k2 j hj).2 (by rw [e j hj]; exact hw)
  · rcases h' with ⟨-, -, m2⟩ | ⟨rfl, -⟩
    · exact (m2 j hj).2 (by rw [← e j hj]; exact hw)
    · exact hne rfl
/-- an object of exactly C is an instance of C -/
theorem cinst {p : Program} {l : Launch} {e : Env} {R : Room} {s : State} {m : MethodId} {args : Array Value} {below : List Frame} {meth : Method} {c : Code} {T : State} {locs : List Loc} {cells slots : Nat} (X : Stand p l e R s m args below meth c T locs cells slots) (hexec : p.tables.exec = Jvm.exec) {own C : String} {index : Nat} (hown : s.vm.findClass own = some m.cls) (hlink : (Cond.classLink own index C).before args s = true) {a : Addr} (hE : Exact C a T)
    {g : JFrame} (hg : g.method = m) {rest : List Value} (hstack : g.stack = .ref a :: rest) (hdg : decode c.code g.pc = .ok (.instanceof index, 3)) :
    ∃ T', Stand p l e R s m args below meth c T' locs cells slots ∧ T'.heap = T.heap ∧ ∀ target, Steps p.tables e below (T'.setTop { g with pc := g.pc + 3, stack := .int 1 :: rest }) target → Steps p.tables e below (T.setTop g) target := by
  obtain ⟨cB, h1, D, h2, h3, h4⟩ := hE
  have h1' : s.vm.findClass C = some cB := by rw [← X.warmed.alike.findClass]; exact h1
  obtain ⟨vm', X', st⟩ := X.instanceofYes hexec hown hlink h2 h4 h1' (by rw [h3]; exact Jvm.Free.SB.assignable_self _ _) hg hstack hdg
  exact ⟨_, X', rfl, st⟩
theorem cself {p : Program} {l : Launch} {e : Env} {R : Room} {s : State} {m : MethodId} {args : Array Value} {below : List Frame} {meth : Method} {c : Code} {T : State} {locs : List Loc} {cells slots : Nat} (X : Stand p l e R s m args below meth c T locs cells slots) (hexec : p.tables.exec = Jvm.exec) {own C : String} {index : Nat} (hown : s.vm.findClass own = some m.cls) (hlink : (Cond.classLink own index C).before args s = true) {a : Addr} (hE : Exact C a T)
    {g : JFrame} (hg : g.method = m) {rest : List Value} (hstack : g.stack = .ref a :: rest) (hdg : decode c.code g.pc = .ok (.checkcast index, 3)) :
    ∃ T', Stand p l e R s m args below meth c T' locs cells slots ∧ T'.heap = T.heap ∧ ∀ target, Steps p.tables e below (T'.setTop { g with pc := g.pc + 3, stack := .ref a :: rest }) target → Steps p.tables e below (T.setTop g) target := by
  obtain ⟨cB, h1, D, h2, h3, h4⟩ := hE
  have h1' : s.vm.findClass C = some cB := by rw [← X.warmed.alike.findClass]; exact h1
  obtain ⟨vm', X', st⟩ := X.checkcastYes hexec hown hlink h2 h4 h1' (by rw [h3]; exact Jvm.Free.SB.assignable_self _ _) hg hstack hdg
  exact ⟨_, X', rfl, fun t h => st t (by rw [← hstack] at h; exact h)⟩
namespace SEq
def yN : MethodName := ⟨"java/lang/String", "equals", "(Ljava/lang/Object;)Z"⟩
abbrev yB : ByteArray := jdk_42_method_66_code
theorem d0 : decode yB 0 = .ok (.aload_n 0, 1) := by decide +kernel
theorem d1 : decode yB 1 = .ok (.aload_n 1, 1) := by decide +kernel
theorem d2 : decode yB 2 = .ok (.if_acmp (.ne) 5, 3) := by decide +kernel
theorem d5 : decode yB 5 = .ok (.iconst 1, 1) := by decide +kernel
theorem d6 : decode yB 6 = .ok (.ireturn, 1) := by decide +kernel
theorem d7 : decode yB 7 = .ok (.aload_n 1, 1) := by decide +kernel
theorem d8 : decode yB 8 = .ok (.instanceof 10, 3) := by decide +kernel
theorem d11 : decode yB 11 = .ok (.ifCond (.eq) 43, 3) := by decide +kernel
theorem d14 : decode yB 14 = .ok (.aload_n 1, 1) := by decide +kernel
theorem d15 : decode yB 15 = .ok (.checkcast 10, 3) := by decide +kernel
theorem d18 : decode yB 18 = .ok (.astore_n 2, 1) := by decide +kernel
theorem d19 : decode yB 19 = .ok (.getstatic 38, 3) := by decide +kernel
theorem d22 : decode yB 22 = .ok (.ifCond (.eq) 14, 3) := by decide +kernel
theorem d25 : decode yB 25 = .ok (.aload_n 0, 1) := by decide +kernel
theorem d26 : decode yB 26 = .ok (.getfield 15, 3) := by decide +kernel
theorem d29 : decode yB 29 = .ok (.aload_n 2, 1) := by decide +kernel
theorem d30 : decode yB 30 = .ok (.getfield 15, 3) := by decide +kernel
theorem d33 : decode yB 33 = .ok (.if_icmp (.ne) 21, 3) := by decide +kernel
theorem d36 : decode yB 36 = .ok (.aload_n 0, 1) := by decide +kernel
theorem d37 : decode yB 37 = .ok (.getfield 9, 3) := by decide +kernel
theorem d40 : decode yB 40 = .ok (.aload_n 2, 1) := by decide +kernel
theorem d41 : decode yB 41 = .ok (.getfield 9, 3) := by decide +kernel
theorem d44 : decode yB 44 = .ok (.invokestatic 541, 3) := by decide +kernel
theorem d47 : decode yB 47 = .ok (.ifCond (.eq) 7, 3) := by decide +kernel
theorem d50 : decode yB 50 = .ok (.iconst 1, 1) := by decide +kernel
theorem d51 : decode yB 51 = .ok (.goto 4, 3) := by decide +kernel
theorem d54 : decode yB 54 = .ok (.iconst 0, 1) := by decide +kernel
theorem d55 : decode yB 55 = .ok (.ireturn, 1) := by decide +kernel
def site : List Cond := [.classLink "java/lang/String" 10 "java/lang/String", .fieldLink "java/lang/String" 38 "java/lang/String" "COMPACT_STRINGS" "Z", .fieldLink "java/lang/String" 15 "java/lang/String" "coder" "B", .fieldLink "java/lang/String" 9 "java/lang/String" "value" "[B", LEq.tab] ++ staticW "java/lang/String" 541 LEq.yN
def tab : Cond := tabOf yN yB 3 (some .boolean) site
def P (x t : Addr) (V : Cell) (cd : Int32) (n : Nat) (f : Nat → Int32) (y t' : Addr) (V' : Cell) (cd' : Int32) (k : Nat) (g : Nat → Int32) (z : Int32) (args : Array Value) (s : State) : Prop := args = #[.ref x, .ref y] ∧ Txt x t V cd n f s ∧ Txt y t' V' cd' k g s ∧ StaticIs s "java/lang/String" "COMPACT_STRINGS" "Z" (.int z) ∧ ¬ z = 0
/-- equals(Object) of two Strings: whether the texts are the same -/
theorem law (l : Launch) (x t : Addr) (V : Cell) (cd : Int32) (n : Nat) (f : Nat → Int32) (y t' : Addr) (V' : Cell) (cd' : Int32) (k : Nat) (g : Nat → Int32) (z : Int32) : Law l yN 2 1 1 14 yB 3 (some .boolean) site (P x t V cd n f y t' V' cd' k g z) (Says01 (SameT n f k g)) [] 0 0 := by
  refine Law.of_walk (plainFor_of_name (by decide +kernel)) (by decide +kernel) (by decide +kernel) (by decide) (fun _ _ h => by rw [h.1]; rfl) (fun _ U U' hal hh h => ⟨h.1, h.2.1.mv hal hh, h.2.2.1.mv hal hh, h.2.2.2.1.there hal hh, h.2.2.2.2⟩) (fun r U U' V V' h1 hal h2 h => Says01.mv r U U' V V' h1 hal h2 h) ?_
  intro p e s m args below meth c s₁ X0 hexec hbytes hml hret hlk hnm hown hh0 W hP
  obtain ⟨rfl, hx, hy, s1, hz⟩ := hP
  have c1 : Steps p.tables e below (s₁.setTop (entryFrame m #[.ref x, .ref y] 3)) (s₁.setTop (mkF m 2 #[.val (.ref x), .val (.ref y), .unset] [.ref y, .ref x])) := Steps.trans (entry rfl) (by
    show Steps p.tables e below (s₁.setTop (mkF m 0 #[.val (.ref x), .val (.ref y), .unset] [])) _
    refine XS.aloadN X0.here hexec rfl (hb hbytes d0) rfl rfl ?_
    refine XS.aloadN X0.here hexec rfl (hb hbytes d1) rfl rfl ?_
    exact Steps.refl _)
  by_cases hxy : x = y
  · have c2 : Steps p.tables e below (s₁.setTop (entryFrame m #[.ref x, .ref y] 3)) (s₁.setTop (mkF m 6 #[.val (.ref x), .val (.ref y), .unset] [.int 1])) := c1.trans (by
      refine acmpNo X0.here hexec rfl (hb hbytes d2) rfl rfl rfl (by simp [acmp, hxy]) ?_
      refine iconstV X0.here hexec rfl 1 (hb hbytes d5) (by decide) ?_
      exact Steps.refl _)
    subst hxy
    have ec : cd = cd' := by
      obtain ⟨D, fd, a1, a2, a3⟩ := hx.2.2.1
      obtain ⟨D', fd', b1, b2, b3⟩ := hy.2.2.1
      cases a1.symm.trans b1
      obtain ⟨q1, q2, q3, q4⟩ := a2.1
      obtain ⟨r1, r2, r3, r4⟩ := b2.1
      cases q4.symm.trans r4
      cases a3.symm.trans b3; rfl
    have et : t = t' := by
      obtain ⟨D, fd, a1, a2, a3⟩ := hx.2.1
      obtain ⟨D', fd', b1, b2, b3⟩ := hy.2.1
      cases a1.symm.trans b1
      obtain ⟨q1, q2, q3, q4⟩ := a2.1
      obtain ⟨r1, r2, r3, r4⟩ := b2.1
      cases q4.symm.trans r4
      cases a3.symm.trans b3; rfl
    subst ec et
    have ev : V = V' := by cases hx.2.2.2.1.1.symm.trans hy.2.2.2.1.1; rfl
    subst ev
    have hs : SameT n f k g := (Cod.eqv hx.2.2.2.2.1 hy.2.2.2.2.1 hx.2.2.2.2.2 hy.2.2.2.2.2).mp ⟨rfl, fun _ _ => rfl⟩
    exact ⟨s₁, some (.int 1), _, _, _, X0, rfl, rfl, rfl, (fun h => by cases h), ⟨1, rfl, hh0, Or.inl ⟨rfl, hs⟩⟩, fun fs hl => c2.trans (X0.ireturnOut hexec hret rfl (Or.inr (Or.inl rfl)) (hb hbytes d6) hl)⟩
  · have c2 : Steps p.tables e below (s₁.setTop (entryFrame m #[.ref x, .ref y] 3)) (s₁.setTop (mkF m 8 #[.val (.ref x), .val (.ref y), .unset] [.ref y])) := c1.trans (by
      refine acmpYes X0.here hexec rfl (pc0 := 2) rfl (hb hbytes d2) rfl rfl rfl (by simp [acmp, hxy]) (by decide) rfl ?_
      refine XS.aloadN X0.here hexec rfl (hb hbytes d7) rfl rfl ?_
      exact Steps.refl _)
    obtain ⟨T3, X3, q3, st3⟩ := cinst X0 hexec hown (wk W (.classLink "java/lang/String" 10 "java/lang/String")) (hy.mv X0.warmed.alike hh0).1 (g := (mkF m 8 #[.val (.ref x), .val (.ref y), .unset] [.ref y])) rfl (rest := []) rfl (hb hbytes d8)
    have hh3 := q3.trans hh0
    have c4 : Steps p.tables e below (s₁.setTop (entryFrame m #[.ref x, .ref y] 3)) (T3.setTop (mkF m 15 #[.val (.ref x), .val (.ref y), .unset] [.ref y])) := (c2.trans (st3 _ (Steps.refl _))).trans (by
      refine XS.ifNo X3.here hexec rfl (hb hbytes d11) rfl (i0_eq_f (by decide)) ?_
      refine XS.aloadN X3.here hexec rfl (hb hbytes d14) rfl rfl ?_
      exact Steps.refl _)
    obtain ⟨T5, X5, q5, st5⟩ := cself X3 hexec hown (wk W (.classLink "java/lang/String" 10 "java/lang/String")) (hy.mv X3.warmed.alike hh3).1 (g := (mkF m 15 #[.val (.ref x), .val (.ref y), .unset] [.ref y])) rfl (rest := []) rfl (hb hbytes d15)
    have hh5 := q5.trans hh3
    have c6 : Steps p.tables e below (s₁.setTop (entryFrame m #[.ref x, .ref y] 3)) (T5.setTop (mkF m 19 #[.val (.ref x), .val (.ref y), .val (.ref y)] [])) := (c4.trans (st5 _ (Steps.refl _))).trans (by
      refine XS.astoreN X5.here hexec rfl (hb hbytes d18) rfl rfl rfl ?_
      exact Steps.refl _)
    obtain ⟨T7, X7, q7, st7⟩ := X5.sget hexec hown (wk W (.fieldLink "java/lang/String" 38 "java/lang/String" "COMPACT_STRINGS" "Z")) s1 (fun _ _ h => by rw [hh5]; exact h) (g := (mkF m 19 #[.val (.ref x), .val (.ref y), .val (.ref y)] [])) rfl (hb hbytes d19)
    have hh7 := q7.trans hh5
    have c8 : Steps p.tables e below (s₁.setTop (entryFrame m #[.ref x, .ref y] 3)) (T7.setTop (mkF m 26 #[.val (.ref x), .val (.ref y), .val (.ref y)] [.ref x])) := (c6.trans (st7 _ (Steps.refl _))).trans (by
      refine XS.ifNo X7.here hexec rfl (hb hbytes d22) rfl (i0_eq_f hz) ?_
      refine XS.aloadN X7.here hexec rfl (hb hbytes d25) rfl rfl ?_
      exact Steps.refl _)
    obtain ⟨T9, X9, q9, st9⟩ := X7.hget hexec hown (wk W (.fieldLink "java/lang/String" 15 "java/lang/String" "coder" "B")) (hx.mv X7.warmed.alike hh7).2.2.1 (g := (mkF m 26 #[.val (.ref x), .val (.ref y), .val (.ref y)] [.ref x])) rfl (rest := []) rfl (hb hbytes d26)
    have hh9 := q9.trans hh7
    have c10 : Steps p.tables e below (s₁.setTop (entryFrame m #[.ref x, .ref y] 3)) (T9.setTop (mkF m 30 #[.val (.ref x), .val (.ref y), .val (.ref y)] [.ref y, .int cd])) := (c8.trans (st9 _ (Steps.refl _))).trans (by
      refine XS.aloadN X9.here hexec rfl (hb hbytes d29) rfl rfl ?_
      exact Steps.refl _)
    obtain ⟨T11, X11, q11, st11⟩ := X9.hget hexec hown (wk W (.fieldLink "java/lang/String" 15 "java/lang/String" "coder" "B")) (hy.mv X9.warmed.alike hh9).2.2.1 (g := (mkF m 30 #[.val (.ref x), .val (.ref y), .val (.ref y)] [.ref y, .int cd])) rfl (rest := [.int cd]) rfl (hb hbytes d30)
    have hh11 := q11.trans hh9
    have c12 : Steps p.tables e below (s₁.setTop (entryFrame m #[.ref x, .ref y] 3)) (T11.setTop (mkF m 33 #[.val (.ref x), .val (.ref y), .val (.ref y)] [.int cd', .int cd])) := c10.trans (st11 _ (Steps.refl _))
    by_cases hcd : cd = cd'
    · subst hcd
      have c13 : Steps p.tables e below (s₁.setTop (entryFrame m #[.ref x, .ref y] 3)) (T11.setTop (mkF m 37 #[.val (.ref x), .val (.ref y), .val (.ref y)] [.ref x])) := c12.trans (by
        refine XS.icmpNo X11.here hexec rfl (hb hbytes d33) rfl (ii_ne_f rfl) ?_
        refine XS.aloadN X11.here hexec rfl (hb hbytes d36) rfl rfl ?_
        exact Steps.refl _)
      obtain ⟨T14, X14, q14, st14⟩ := X11.hget hexec hown (wk W (.fieldLink "java/lang/String" 9 "java/lang/String" "value" "[B")) (hx.mv X11.warmed.alike hh11).2.1 (g := (mkF m 37 #[.val (.ref x), .val (.ref y), .val (.ref y)] [.ref x])) rfl (rest := []) rfl (hb hbytes d37)
      have hh14 := q14.trans hh11
      have c15 : Steps p.tables e below (s₁.setTop (entryFrame m #[.ref x, .ref y] 3)) (T14.setTop (mkF m 41 #[.val (.ref x), .val (.ref y), .val (.ref y)] [.ref y, .ref t])) := (c13.trans (st14 _ (Steps.refl _))).trans (by
        refine XS.aloadN X14.here hexec rfl (hb hbytes d40) rfl rfl ?_
        exact Steps.refl _)
      obtain ⟨T16, X16, q16, st16⟩ := X14.hget hexec hown (wk W (.fieldLink "java/lang/String" 9 "java/lang/String" "value" "[B")) (hy.mv X14.warmed.alike hh14).2.1 (g := (mkF m 41 #[.val (.ref x), .val (.ref y), .val (.ref y)] [.ref y, .ref t])) rfl (rest := [.ref t]) rfl (hb hbytes d41)
      have hh16 := q16.trans hh14
      have c17 : Steps p.tables e below (s₁.setTop (entryFrame m #[.ref x, .ref y] 3)) (T16.setTop (mkF m 44 #[.val (.ref x), .val (.ref y), .val (.ref y)] [.ref t', .ref t])) := c15.trans (st16 _ (Steps.refl _))
      obtain ⟨v18, T18, X18, E18, g18⟩ := X16.callS hexec (LEq.law l t V t' V') hown (wks W (staticW "java/lang/String" 541 LEq.yN)) (wk W LEq.tab) (W := 0) (Nat.le_of_ble_eq_true rfl) (Nat.le_of_ble_eq_true rfl) (Nat.le_refl _) (Nat.le_refl _) (g := (mkF m 44 #[.val (.ref x), .val (.ref y), .val (.ref y)] [.ref t', .ref t])) rfl (by rw [hml]; rfl) c17 (argsL := [.ref t, .ref t']) (rest := []) rfl rfl (by show 2 * 0 + 0 ≤ _; decide) (hb hbytes d44) (⟨rfl, hx.2.2.2.1.mv X16.warmed.alike hh16, hx.2.2.2.2.1.ty, hy.2.2.2.1.mv X16.warmed.alike hh16, hy.2.2.2.2.1.ty⟩)
      obtain ⟨v, rfl, q18, hv⟩ := E18
      have iff := Cod.eqv hx.2.2.2.2.1 hy.2.2.2.2.1 hx.2.2.2.2.2 hy.2.2.2.2.2
      rcases hv with ⟨rfl, he⟩ | ⟨rfl, he⟩
      · have c19 : Steps p.tables e below (s₁.setTop (entryFrame m #[.ref x, .ref y] 3)) (T18.setTop (mkF m 55 #[.val (.ref x), .val (.ref y), .val (.ref y)] [.int 1])) := Steps.trans g18 (by
          refine XS.ifNo X18.here hexec rfl (hb hbytes d47) rfl (i0_eq_f (by decide)) ?_
          refine iconstV X18.here hexec rfl 1 (hb hbytes d50) (by decide) ?_
          refine XS.goto X18.here hexec rfl (pc0 := 51) rfl (hb hbytes d51) (by decide) rfl ?_
          exact Steps.refl _)
        exact ⟨T18, some (.int 1), _, _, _, X18, rfl, rfl, rfl, (fun h => by cases h), ⟨1, rfl, q18.trans hh16, Or.inl ⟨rfl, iff.mp he⟩⟩, fun fs hl => c19.trans (X18.ireturnOut hexec hret rfl (Or.inr (Or.inl rfl)) (hb hbytes d55) hl)⟩
      · have c19 : Steps p.tables e below (s₁.setTop (entryFrame m #[.ref x, .ref y] 3)) (T18.setTop (mkF m 55 #[.val (.ref x), .val (.ref y), .val (.ref y)] [.int 0])) := Steps.trans g18 (by
          refine XS.ifYes X18.here hexec rfl (pc0 := 47) rfl (hb hbytes d47) rfl (i0_eq_t rfl) (by decide) rfl ?_
          refine iconstV X18.here hexec rfl 0 (hb hbytes d54) (by decide) ?_
          exact Steps.refl _)
        exact ⟨T18, some (.int 0), _, _, _, X18, rfl, rfl, rfl, (fun h => by cases h), ⟨0, rfl, q18.trans hh16, Or.inr ⟨rfl, fun q => he (iff.mpr q)⟩⟩, fun fs hl => c19.trans (X18.ireturnOut hexec hret rfl (Or.inr (Or.inl rfl)) (hb hbytes d55) hl)⟩
    · have c13 : Steps p.tables e below (s₁.setTop (entryFrame m #[.ref x, .ref y] 3)) (T11.setTop (mkF m 55 #[.val (.ref x), .val (.ref y), .val (.ref y)] [.int 0])) := c12.trans (by
        refine XS.icmpYes X11.here hexec rfl (pc0 := 33) rfl (hb hbytes d33) rfl (ii_ne_t hcd) (by decide) rfl ?_
        refine iconstV X11.here hexec rfl 0 (hb hbytes d54) (by decide) ?_
        exact Steps.refl _)
      exact ⟨T11, some (.int 0), _, _, _, X11, rfl, rfl, rfl, (fun h => by cases h), ⟨0, rfl, hh11, Or.inr ⟨rfl, Cod.dif hx.2.2.2.2.1 hy.2.2.2.2.1 hcd⟩⟩, fun fs hl => c13.trans (X11.ireturnOut hexec hret rfl (Or.inr (Or.inl rfl)) (hb hbytes d55) hl)⟩
theorem pays {l : Launch} {R : Room} {p : Program} {e : Env} {below : List Frame} {s : State} {sargs : Array Value} {len W : Nat} (x t : Addr) (V : Cell) (cd : Int32) (n : Nat) (f : Nat → Int32) (y t' : Addr) (V' : Cell) (cd' : Int32) (k : Nat) (g : Nat → Int32) (z : Int32) (htab : tab.before sargs s = true) (hfr : 2 ≤ R.frames) (hlo : W + 28 ≤ R.locals) :
    Back l R p e below s sargs yN len W (fun A₁ a₁ => A₁.cells + 0 ≤ R.cells ∧ A₁.slots + 0 ≤ R.slots ∧ P x t V cd n f y t' V' cd' k g z a₁ A₁.U) (fun A₁ _ v₁ B₁ => Says01 (SameT n f k g) v₁ A₁.U B₁.U ∧ B₁.locs = A₁.locs ++ [] ∧ B₁.cells = A₁.cells + 0 ∧ B₁.slots = A₁.slots + 0) :=
  (law l x t V cd n f y t' V' cd' k g z).pays htab hfr (by omega)
end SEq
end StrChars
namespace StrChars.Road
open Jvm Sem ClassFile Op Lib Jvm.Stand Jvm.Free Jvm.Free.XT
open Jvm.Lib.Cold (StaticIs)
/-- the words of String.equals(Object) -/
abbrev wordsEq : List Jvm.Cond := [.code SEq.yN SEq.yB 3 (some .boolean), .initialized ST, .classLink ST 10 ST, .fieldLink ST 38 ST "COMPACT_STRINGS" "Z", .fieldLink ST 15 ST "coder" "B", .fieldLink ST 9 ST "value" "[B", .methodLink ST 541 LEq.yN, .static LEq.yN, .code LEq.yN LEq.yB 3 (some .boolean), .initialized "java/lang/StringLatin1"]
theorem tabEq_of {a : Array Value} {s : State} (h : ∀ w ∈ wordsEq, w.before a s = true) : SEq.tab.before a s = true := by
  have hl : LEq.tab.before a s = true := unparts (wk h (.code LEq.yN LEq.yB 3 (some .boolean))) (wks h (.initialized LEq.yN.cls :: LEq.site))
  have q := consq hl h
  exact unparts (wk q (.code SEq.yN SEq.yB 3 (some .boolean))) (wks q (.initialized SEq.yN.cls :: SEq.site))
theorem movedEq {Z s : State} {a0 args : Array Value} (hZ : Z.Warmed39 s.vm) (hw : ∀ d ∈ wordsEq, d.before a0 Z = true) : ∀ d ∈ wordsEq, d.before args s = true := fun d hd => by
  have t : ∀ d ∈ wordsEq, (d.onTables && d.keepsFace) = true := by decide +kernel
  exact RoadKit.mv hZ (hw d hd) (t d hd)
/-- the road's facts of a String, as the laws ask it -/
theorem txt_of {Z U : State} {a0 : Array Value} {kI : Nat} (wi : (Jvm.Cond.instantiable ST kI).before a0 Z = true) (al : Z.vm.Alike U.vm) {x t : Addr} {kb : ClassId} {cs : List Int32} {cd N2 : Int32} {vs : List Value} (E : RoadKit.Exa Z U.heap x ST) (V : RoadKit.Fld Z U.heap x ST "value" "[B" (.ref t)) (C : RoadKit.Fld Z U.heap x ST "coder" "B" (.int cd)) (K : RoadKit.Arv Z U.heap t kb .byte N2 vs (.int 0)) (hc : CodA cs cd N2 vs) (hb : ∀ c ∈ cs, ¬ c < 0 ∧ ¬ (65535 : Int32) < c) (l2 : cs.length ≤ 4000) :
    ∃ A, Txt x t A cd cs.length (fun j => cs.getD j 0) U := by
  obtain ⟨A, K1, K2, K3, K4, K5, K6⟩ := K
  have hcod := hc.cod (by omega) K3 K5
  obtain ⟨D, fV, fC, hB, F1, F2, g1, g2, -, -⟩ := strObj wi al E V C
  exact ⟨A, ⟨_, hB.2.2.1, D, hB.1, rfl, by cases q : D.vm <;> first | rfl | exact absurd q (hB.2.1.2 _)⟩, Has.of hB F1 g1, Has.of hB F2 g2, ⟨K1.1, State.isArrayOf_alike al K1.2.1, K1.2.2, by rcases hcod with ⟨-, q, -⟩ | ⟨-, q, -⟩ <;> omega⟩, hcod, fun j hj => by
    have e : cs.getD j 0 = cs[j] := by simp [List.getD_eq_getElem?_getD, hj]
    show ¬ cs.getD j 0 < 0 ∧ ¬ 65535 < cs.getD j 0
    rw [e]; exact hb _ (List.getElem_mem _)⟩
theorem same_list (cs ds : List Int32) : SameT cs.length (fun j => cs.getD j 0) ds.length (fun j => ds.getD j 0) ↔ cs = ds := by
  constructor
  · rintro ⟨e, q⟩
    refine List.ext_getElem e fun j h1 h2 => ?_
    have := q j h1
    simpa [List.getD_eq_getElem?_getD, h1, h2] using this
  · rintro rfl
    exact ⟨rfl, fun _ _ => rfl⟩
/-- **equals(Object) OF TWO SUCH STRINGS**: 1 just where the chars are the same -/
theorem eqW {p : Program} {l : Launch} {e : Env} {R : Room} {s : State} {args : Array Value} {below : List Frame} {len W : Nat} {Z : State} {a0 : Array Value} {h : Heap} (hZ : Z.Warmed39 s.vm) (hw : ∀ d ∈ wordsEq, d.before a0 Z = true) {kI : Nat} (wi : (Jvm.Cond.instantiable ST kI).before a0 Z = true)
    {x t : Addr} {kb : ClassId} {cs : List Int32} {cd N2 : Int32} {vs : List Value} (E : RoadKit.Exa Z h x ST) (V : RoadKit.Fld Z h x ST "value" "[B" (.ref t)) (C : RoadKit.Fld Z h x ST "coder" "B" (.int cd)) (K : RoadKit.Arv Z h t kb .byte N2 vs (.int 0)) (hc : CodA cs cd N2 vs) (hb : ∀ c ∈ cs, ¬ c < 0 ∧ ¬ (65535 : Int32) < c) (l2 : cs.length ≤ 4000)
    {y t' : Addr} {kb' : ClassId} {ds : List Int32} {cd' N2' : Int32} {vs' : List Value} (E' : RoadKit.Exa Z h y ST) (V' : RoadKit.Fld Z h y ST "value" "[B" (.ref t')) (C' : RoadKit.Fld Z h y ST "coder" "B" (.int cd')) (K' : RoadKit.Arv Z h t' kb' .byte N2' vs' (.int 0)) (hc' : CodA ds cd' N2' vs') (hb' : ∀ c ∈ ds, ¬ c < 0 ∧ ¬ (65535 : Int32) < c) (l2' : ds.length ≤ 4000)
    {z : Int32} (S : RoadKit.Sta Z h ST "COMPACT_STRINGS" "Z" (.int z)) (hz : ¬ z = 0) (hfr : 2 ≤ R.frames) (hlo : W + 28 ≤ R.locals) :
    Back l R p e below s args (⟨"java/lang/String", "equals", "(Ljava/lang/Object;)Z"⟩ : MethodName) len W (fun P a => a = #[.ref x, .ref y] ∧ P.U.heap = h ∧ P.cells + 0 ≤ R.cells ∧ P.slots + 0 ≤ R.slots)
      (fun P _ v B => ∃ L, (((v = some (.int 1) ∧ cs = ds) ∨ (v = some (.int 0) ∧ ¬ cs = ds)) ∧ L = [] ∧ B.U.heap = h) ∧ B.locs = P.locs ++ L ∧ B.cells = P.cells + 0 ∧ B.slots = P.slots + 0) := by
  intro m meth c P g ig mk a X hg hsize hdg hW hn hp'
  obtain ⟨rfl, rfl, r1, r2⟩ := hp'
  have al : Z.vm.Alike P.U.vm := hZ.alike.trans X.warmed.alike
  obtain ⟨A, hx⟩ := txt_of wi al E V C K hc hb l2
  obtain ⟨A', hy⟩ := txt_of wi al E' V' C' K' hc' hb' l2'
  obtain ⟨v, B, X', ⟨⟨w, hv, hh, hq⟩, hl, hk, hs⟩, st⟩ := SEq.pays x t A cd cs.length (fun j => cs.getD j 0) y t' A' cd' ds.length (fun j => ds.getD j 0) z (tabEq_of (movedEq hZ hw)) hfr hlo m meth c P g ig mk _ X hg hsize hdg hW hn ⟨r1, r2, rfl, hx, hy, sta_is al S, hz⟩
  refine ⟨v, B, X', ⟨[], ⟨?_, rfl, hh⟩, hl, hk, hs⟩, st⟩
  rcases hq with ⟨rfl, q⟩ | ⟨rfl, q⟩
  · exact Or.inl ⟨hv, (same_list cs ds).mp q⟩
  · exact Or.inr ⟨hv, fun e => q ((same_list cs ds).mpr e)⟩
end StrChars.Road
namespace StrChars.Road
open Jvm Sem ClassFile Op Lib Jvm.Stand Jvm.Free Jvm.Free.XT
open Jvm.Lib.Cold (StaticIs)
/-- what backV says of its String, as the contracts of this text ask it: cs's low bytes, coder 0 -/
theorem codOf {cs : List Int32} {n : Nat} (hn : cs.length = n) (hb : ∀ c ∈ cs, ¬ 255 < c) : CodA cs 0 (Int32.ofNat n) ((cs.map lo8).map Value.int) := Or.inl ⟨rfl, by rw [hn], by simp [List.map_map, Function.comp_def], hb⟩
end StrChars.Road
end Jvm.Pilot.@@N@@
namespace Jvm.Pilot.@@N@@
open Jvm Jvm.ClassFile Sem Op Lib Jvm.Free Jvm.Stand Jvm.LawKit Jvm.RoadKit Bundle Jvm.Own Jvm.Pilot.@@N@@.Jvm.D
theorem pnST : plainFor (⟨"java/lang/String", n, d⟩ : MethodName) = true := plainFor_of_name (by first | (simp [plainName, overriddenIn]; done) | decide +kernel)
abbrev i1N : MethodName := ⟨"java/lang/String", "<init>", "([C)V"⟩
abbrev eqN : MethodName := ⟨"java/lang/String", "equals", "(Ljava/lang/Object;)Z"⟩
theorem pd_i1 : parseMethodDescriptor "([C)V" = some ⟨[.array .char], none⟩ := by decide +kernel
theorem pd_eq : parseMethodDescriptor "(Ljava/lang/Object;)Z" = some ⟨[.object "java/lang/Object"], some .boolean⟩ := by decide +kernel
section Use
variable {Z : State} {a0 : Array Value} {n0 : Nat} {p : Program} {l : Launch} {e : Env} {R : Room} {s : State} {m : MethodId} {args : Array Value} {below : List Frame} {meth : Method} {c : Code} {own name : String} {bytes : ByteArray} {maxL : Nat} {ret : Option FieldType}
  {F : State → Outcome → Prop} {T : State} {h : Heap} {k n : Nat} {pc pc' : Nat} {L : List Slot} {S : List Value} {W idx : Nat}
set_option maxRecDepth 65536 in
set_option maxHeartbeats 4000000 in
/-- new String(char[]), no empty array -/
theorem c_newStr (C : Ctx Z a0 consts_1 p s m meth c own name bytes maxL ret) (P : Pos Z consts_1 n0 p l e R s m args below meth c T h k n) (hw : ∀ d ∈ tables_1, d.before a0 Z = true) {z : Int32} (Sz : Sta Z Z.heap sST "COMPACT_STRINGS" "Z" (.int z)) (hz : ¬ z = 0) {a b : Addr} {cs : List Int32} {rest : List Value} (hd : decode bytes pc = .ok (.invokespecial idx, 3)) (w1 : (Jvm.Cond.methodLink own idx i1N).before a0 Z = true) (w2 : (Jvm.Cond.instanceMethod i1N).before a0 Z = true)
    (B : Blk Z a0 n0 h a sST) (V : Chs Z n0 h b cs) (hcs : ∀ c ∈ cs, ¬ c < 0 ∧ ¬ (255 : Int32) < c) (hne : cs ≠ []) (hL : L.length = maxL) (hW : (rest.map fun v => v.category).sum ≤ W) (hfr : 4 ≤ R.frames) (hlo : W + 65 ≤ R.locals) (hc : k + 2 ≤ R.cells) (hl : n + (cs.length + 4) ≤ R.slots) (hq : pc + 3 = pc')
    (r : ∀ T' h', Pos Z consts_1 n0 p l e R s m args below meth c T' h' (k + 2) (n + (cs.length + 4)) → Keep h h' [a] → Str Z h' a cs → Run p.tables e below F T' (fr m pc' L rest)) : Run p.tables e below F T (fr m pc L (.ref b :: .ref a :: rest)) := by
  have wlV : (Jvm.Cond.laysFinal sST sST "value" "[B").before a0 Z = true := hw _ (by decide +kernel)
  have wlC : (Jvm.Cond.laysFinal sST sST "coder" "B").before a0 Z = true := hw _ (by decide +kernel)
  have wi : (Jvm.Cond.instantiable sST 4).before a0 Z = true := hw _ (by decide +kernel)
  have wc : (Jvm.Cond.code i1N jdk_42_method_3_code 2 none).before a0 Z = true := hw _ (by decide +kernel)
  cases cs with
  | nil => exact absurd rfl hne
  | cons c0 cr =>
    subst hq
    have hws : ∀ d ∈ StrChars.Road.words, d.before a0 Z = true := fun d hd => hw d ((by decide +kernel : ∀ d ∈ StrChars.Road.words, d ∈ tables_1) d hd)
    have Fv : Fld Z h a sST "value" "[B" .null := B.2.2 (Or.inr wlV) (ty := .array .byte) (by decide)
    have Fc : Fld Z h a sST "coder" "B" (.int 0) := B.2.2 (Or.inr wlC) (ty := .byte) (by decide)
    obtain ⟨-, hlen, kb, A⟩ := V
    have Sh := Sz.ext P.z
    have hn0 := P.n0le
    obtain ⟨vm0, k0, locs, X, eT, hS, hk, hC, hF, hO, hZ, hown⟩ := P.opened C
    obtain ⟨_, _, ⟨U, Ls, kk, nn⟩, -, X', ⟨Lc, hQ, l1, l2, l3⟩, st⟩ := X.specialBack C.1 (y := i1N) rfl hown (mvT hZ w1) (mvT hZ w2) (mvT hZ wc) (by decide) (StrChars.Road.backV (W := W) hZ hws (kI := 4) wi (cs := c0 :: cr) (bs := (c0 :: cr).map (fun c => c.toInt8.toInt32)) (n := (c0 :: cr).length) B.1 hn0 B.2.1 Fv Fc A Sh hz rfl rfl (by simp) hlen hcs rfl hfr hlo) (g := fr m pc L (.ref b :: .ref a :: rest)) rfl (by rw [C.2.2.2.2.1]; exact hL) (Steps.refl _) (a := a) (argsL := [.ref b]) (rest := rest) (lenOf pd_i1 rfl) rfl (by show 2 * 0 + _ ≤ _; omega) (hb C.2.2.2.1 hd) (fun _ _ => ⟨rfl, eT, by show k + 1 ≤ _; omega, by show n + (c0 :: cr).length ≤ _; omega⟩)
    dsimp only [Pt.U, Pt.locs, Pt.cells, Pt.slots] at X' hQ l1 l2 l3 st
    subst l1 l2 l3
    obtain ⟨rfl, N, K, g1, g2, t, kb', g3, g4, g5, g6, g7⟩ := hQ
    have Sa : ∀ x ∈ [a], Safe Z consts_1 vm0 h x := fun x hx => by cases List.mem_singleton.mp hx; exact safe_blank hZ.alike B.2.1 Fv
    have hR := CHr.keep K Sa hC.1
    refine Run.after st (r U U.heap ⟨vm0, k0, _, X'.more (by omega) (by omega), rfl, hS, Nat.le_trans hk K.1, hC.trans hR, hF.app N, hO.keep K (allS B.1 all0)⟩ K ⟨hlen, hcs, g1, g2, t, kb', g6, g7⟩)
set_option maxRecDepth 65536 in
set_option maxHeartbeats 4000000 in
/-- String.equals of two known Strings -/
theorem c_eqStr (C : Ctx Z a0 consts_1 p s m meth c own name bytes maxL ret) (P : Pos Z consts_1 n0 p l e R s m args below meth c T h k n) (hw : ∀ d ∈ tables_1, d.before a0 Z = true) {z : Int32} (Sz : Sta Z Z.heap sST "COMPACT_STRINGS" "Z" (.int z)) (hz : ¬ z = 0) {a b : Addr} {cs ds : List Int32} {rest : List Value} (hd : decode bytes pc = .ok (.invokevirtual idx, 3)) (w1 : (Jvm.Cond.methodLink own idx eqN).before a0 Z = true)
    (A : Str Z h a cs) (B : Str Z h b ds) (hL : L.length = maxL) (hW : (rest.map fun v => v.category).sum ≤ W) (hfr : 2 ≤ R.frames) (hlo : W + 28 ≤ R.locals) (hc : k ≤ R.cells) (hl : n ≤ R.slots) (hq : pc + 3 = pc')
    (r : ∀ T' (v : Int32), Pos Z consts_1 n0 p l e R s m args below meth c T' h k n → ((v = 1 ∧ cs = ds) ∨ (v = 0 ∧ ¬ cs = ds)) → Run p.tables e below F T' (fr m pc' L (.int v :: rest))) : Run p.tables e below F T (fr m pc L (.ref b :: .ref a :: rest)) := by
  subst hq
  have heq : ∀ d ∈ StrChars.Road.wordsEq, d.before a0 Z = true := fun d hd => hw d ((by decide +kernel : ∀ d ∈ StrChars.Road.wordsEq, d ∈ tables_1) d hd)
  have wi : (Jvm.Cond.instantiable sST 4).before a0 Z = true := hw _ (by decide +kernel)
  have wd : (Jvm.Cond.declares eqN).before a0 Z = true := hw _ (by decide +kernel)
  have wm : (Jvm.Cond.instanceMethod eqN).before a0 Z = true := hw _ (by decide +kernel)
  have wsl : (Jvm.Cond.selects sST eqN eqN).before a0 Z = true := hw _ (by decide +kernel)
  obtain ⟨a1, a2, a3, a4, ta, ka, a5, a6⟩ := A
  obtain ⟨b1, b2, b3, b4, tb, kb, b5, b6⟩ := B
  have Sh := Sz.ext P.z
  obtain ⟨vm0, k0, locs, X, eT, hS, hk, hC, hF, hO, hZ, hown⟩ := P.opened C
  obtain ⟨cq, kq, qa, -, qc⟩ := isOf hZ eT a3
  obtain ⟨_, _, ⟨U, Ls, kk, nn⟩, -, X', ⟨Lc, ⟨hv, rfl, hU⟩, l1, l2, l3⟩, st⟩ := X.virtualBack C.1 (y := eqN) (z := eqN) hown (mvT hZ w1) (mvT hZ wd) (notFace_of_selects (args := #[]) (mvT hZ wsl)) (mvT hZ wsl) (mvT hZ wm) (by decide) (StrChars.Road.eqW (W := W) hZ heq (kI := 4) wi a3 a5 a4 a6 (StrChars.Road.codOf rfl (fun c hc => (a2 c hc).2)) (up8 _ a2) a1 b3 b5 b4 b6 (StrChars.Road.codOf rfl (fun c hc => (b2 c hc).2)) (up8 _ b2) b1 Sh hz hfr hlo) qa qc (g := fr m pc L (.ref b :: .ref a :: rest)) rfl (by rw [C.2.2.2.2.1]; exact hL) (Steps.refl _) (argsL := [.ref b]) (rest := rest) (lenOf pd_eq rfl) rfl (by show 2 * 0 + _ ≤ _; omega) (hb C.2.2.2.1 hd) (fun _ _ => ⟨rfl, eT, by show k + 0 ≤ _; omega, by show n + 0 ≤ _; omega⟩)
  dsimp only [Pt.U, Pt.locs, Pt.cells, Pt.slots] at X' hU l1 l2 l3 st
  replace l1 := l1.symm
  replace l2 := l2.symm
  replace l3 := l3.symm
  subst l1 l2 l3
  have P' : Pos Z consts_1 n0 p l e R s m args below meth c U h k n := ⟨vm0, k0, _, by simpa using X', hU, hS, hk, hC, hF, hO⟩
  rcases hv with ⟨rfl, hv⟩ | ⟨rfl, hv⟩
  · exact Run.after st (r U 1 P' (Or.inl ⟨rfl, hv⟩))
  · exact Run.after st (r U 0 P' (Or.inr ⟨rfl, hv⟩))
end Use
end Jvm.Pilot.@@N@@
namespace Jvm.Pilot.@@N@@
open Jvm Jvm.ClassFile Sem Op Lib Jvm.Free Jvm.Stand Jvm.LawKit Jvm.RoadKit Bundle Jvm.Own Jvm.Pilot.@@N@@.Jvm.D
abbrev vCE : MethodName := ⟨"java/lang/StringLatin1", "canEncode", "(C)Z"⟩
abbrev vTB : MethodName := ⟨"java/lang/StringLatin1", "toBytes", "(C)[B"⟩
abbrev vIB : MethodName := ⟨"java/lang/String", "<init>", "([BB)V"⟩
abbrev vOf : MethodName := ⟨"java/lang/String", "valueOf", "(C)Ljava/lang/String;"⟩
/-- the words of String.valueOf(char), the Latin-1 road -/
abbrev wV : List Jvm.Cond := [.methodLink sST 1 Lib.objectInit, .instanceMethod Lib.objectInit, .code Lib.objectInit ⟨#[0xb1]⟩ 1 none, .fieldLink sST 38 sST "COMPACT_STRINGS" "Z", .fieldLink sST 9 sST "value" "[B", .fieldLink sST 15 sST "coder" "B",
  .laysFinal sST sST "value" "[B", .laysFinal sST sST "coder" "B", .instantiable sST 4, .initialized sST, .methodLink sST 1015 vCE, .static vCE, .code vCE jdk_43_method_3_code 1 (some .boolean), .initialized "java/lang/StringLatin1",
  .methodLink sST 1018 vTB, .static vTB, .code vTB jdk_43_method_46_code 1 (some (.array .byte)), .arrayClass .byte, .methodLink sST 209 vIB, .instanceMethod vIB, .code vIB jdk_42_method_151_code 3 none, .classLink sST 10 sST]
theorem v_ce_ef (m : MethodId) (x : Int32) : entryFrame m #[.int x] 1 = fr m 0 [.val (.int x)] [] := by first | (simp [entryFrame, mkF, argsToLocals, Value.category]; done) | rfl
theorem v_ib_ef (m : MethodId) (a b : Addr) : entryFrame m #[.ref a, .ref b, .int 0] 3 = fr m 0 [.val (.ref a), .val (.ref b), .val (.int 0)] [] := by first | (simp [entryFrame, mkF, argsToLocals, Value.category]; done) | rfl
theorem v_ce (l : Launch) {Z : State} {a0 : Array Value} {n0 : Nat} {h : Heap} (hEL : EW Z a0 consts_1) (x : Int32) (O : Old Z n0 h) (hx : ¬ (255 : Int32) < x) :
    Con l Z consts_1 n0 [] vCE jdk_43_method_3_code 1 (some .boolean) ({ frames := 0, cells := 0, slots := 0, locals := 0 } : Room) #[.int x] h (Ret1 fun v h' => v = .int 1 ∧ h = h') := by
  refine Con.intro (plainFor_of_name (by first | (simp [plainName, overriddenIn]; done) | decide +kernel)) O hEL ?_
  intro p e s m below meth c T C hs P
  refine Run.cast (v_ce_ef m x) ?_
  refine blk C P [.iload_n 0, .sipush 255] (by decide +kernel) (pc' := 4) (L' := [.val (.int x)]) (S' := [.int 255, .int x]) rfl ?_
  refine b_cmN C P (cd := .gt) (o := 7) (by decide +kernel) (pc' := 7) rfl hx ?_
  refine blk C P [.iconst 1] (by decide +kernel) (pc' := 8) (L' := [.val (.int x)]) (S' := [.int 1]) rfl ?_
  refine b_goto C P (o := 4) (by decide +kernel) (pc' := 12) (by decide) ?_
  exact r_int C P (ty := .boolean) (by simp) rfl (by decide +kernel) (le_ _ _ rfl) (le_ _ _ rfl) ⟨_, rfl, rfl, rfl⟩
theorem b8_idem (x : Int32) : (x.toInt8.toInt32).toInt8.toInt32 = x.toInt8.toInt32 := by simp
set_option maxRecDepth 65536 in
set_option maxHeartbeats 4000000 in
theorem v_tb (l : Launch) {Z : State} {a0 : Array Value} {n0 : Nat} {h : Heap} (hw : ∀ d ∈ wV, d.before a0 Z = true) (hEL : EW Z a0 consts_1) (x : Int32) (O : Old Z n0 h) :
    Con l Z consts_1 n0 [] vTB jdk_43_method_46_code 1 (some (.array .byte)) ({ frames := 0, cells := 1, slots := 1, locals := 0 } : Room) #[.int x] h (Ret1 fun v h' => ∃ b k, v = .ref b ∧ Ext h h' ∧ Arv Z h' b k .byte (1 : Int32) [.int x.toInt8.toInt32] (.int 0)) := by
  refine Con.intro (plainFor_of_name (by first | (simp [plainName, overriddenIn]; done) | decide +kernel)) O hEL ?_
  intro p e s m below meth c T C hs P
  refine Run.cast (v_ce_ef m x) ?_
  refine blk C P [.iconst 1] (by decide +kernel) (pc' := 1) (L' := [.val (.int x)]) (S' := [.int 1]) rfl ?_
  have hb' := C.2.2.2.1
  have hn0 := P.n0le
  obtain ⟨vm0, k0, locs, X, eT, hS, hk, hC, hF, hO, hZ, hown⟩ := P.opened C
  obtain ⟨T1, h1, cA, X1, e1, E1, A1, st1⟩ := newP X C.1 hZ (aty := .byte) (hw (.arrayClass .byte) (List.mem_of_getElem? (i := 17) rfl)) eT (g := fr m 1 [.val (.int x)] [.int 1]) rfl (hb hb' (pc := 1) (by decide +kernel)) rfl (by decide) (cap := 1) (by decide) (by decide) (by decide) (by decide)
  refine Run.go st1 ?_
  refine Run.go (fun t q => prun_ok X1.here C.1 [.dup, .iconst 0, .iload_n 0, .i2b] (pc := 3) (pc' := 7) (L := [.val (.int x)]) (L' := [.val (.int x)]) (S := [.ref h.size]) (S' := [.int x.toInt8.toInt32, .int 0, .ref h.size, .ref h.size]) (by rw [hb']; decide +kernel) rfl q) ?_
  have V1 : Arv Z h1 h.size cA .byte (1 : Int32) [.int 0] (.int 0) := (Arv.new A1 (by decide)).pad (pad_rep [] (.int 0) 1)
  obtain ⟨cl, Ar, q1, q2, q3, H, G⟩ := V1
  obtain ⟨T2, h2, X2, e2, W2, st2⟩ := stB X1 C.1 hZ e1 Ar (j := 0) (x := x.toInt8.toInt32) (inb_of q2 ⟨by decide, by decide⟩) (g := fr m 7 [.val (.int x)] [.int x.toInt8.toInt32, .int 0, .ref h.size, .ref h.size]) rfl rfl (hb hb' (pc := 7) (by decide +kernel))
  refine Run.go st2 ?_
  have V2 := Arv.set Ar q1 q2 q3 H G (fits_nar_byte _) W2 0 rfl (by decide)
  rw [b8_idem] at V2
  have S1 : Safe Z consts_1 vm0 h1 h.size := Safe.ext E1 hC.1 (Safe.new (Nat.le_refl _))
  have R1 := CHr.ext E1 hC.1
  have P2 : Pos Z consts_1 n0 p l e ({ frames := 0, cells := 1, slots := 1, locals := 0 } : Room) s m #[.int x] below meth c T2 h2 (0 + 1) (0 + 1) :=
    ⟨vm0, k0, _, X2, e2, hS, by rw [W2.size]; exact Nat.le_trans hk E1.1, hC.trans (R1.trans (CHr.wr W2 S1 R1.1)), Fr.snoc X2 hF hn0, (hO.ext E1).wr W2 hn0⟩
  exact r_ref C P2 (pc := 8) (w := .ref h.size) rfl rfl (by decide +kernel) (le_ _ _ rfl) (le_ _ _ rfl) ⟨_, rfl, h.size, cA, rfl, exK E1 (Keep.of_wr W2) (Nat.le_refl _), V2⟩
set_option maxRecDepth 65536 in
set_option maxHeartbeats 4000000 in
theorem v_ib (l : Launch) {Z : State} {a0 : Array Value} {n0 : Nat} {h : Heap} (hw : ∀ d ∈ wV, d.before a0 Z = true) (hEL : EW Z a0 consts_1) (a b : Addr) {kb : ClassId} {cs : List Int32} (O : Old Z n0 h) (B : Blk Z a0 n0 h a sST) (V : Arv Z h b kb .byte (Int32.ofNat cs.length) ((cs.map fun c => c.toInt8.toInt32).map Value.int) (.int 0)) (hlen : cs.length ≤ 4000) (hcs : ∀ c ∈ cs, ¬ c < 0 ∧ ¬ (255 : Int32) < c) :
    Con l Z consts_1 n0 [] vIB jdk_42_method_151_code 3 none ({ frames := 1, cells := 0, slots := 0, locals := 12 } : Room) #[.ref a, .ref b, .int 0] h (Ret0 fun h' => Keep h h' [a] ∧ Str Z h' a cs) := by
  have wFV := hw (.fieldLink sST 9 sST "value" "[B") (List.mem_of_getElem? (i := 4) rfl)
  have wFC := hw (.fieldLink sST 15 sST "coder" "B") (List.mem_of_getElem? (i := 5) rfl)
  have wlV := hw (.laysFinal sST sST "value" "[B") (List.mem_of_getElem? (i := 6) rfl)
  have wlC := hw (.laysFinal sST sST "coder" "B") (List.mem_of_getElem? (i := 7) rfl)
  have wi := hw (.instantiable sST 4) (List.mem_of_getElem? (i := 8) rfl)
  refine Con.intro (plainFor_of_name (by first | (simp [plainName, overriddenIn]; done) | decide +kernel)) O hEL ?_
  intro p e s m below meth c T C hs P
  refine Run.cast (v_ib_ef m a b) ?_
  refine blk C P [.aload_n 0] (by decide +kernel) (pc' := 1) (L' := [.val (.ref a), .val (.ref b), .val (.int 0)]) (S' := [.ref a]) rfl ?_
  refine s_initO C P (idx := 1) (by decide +kernel) (hw _ (List.mem_of_getElem? (i := 0) rfl)) (hw _ (List.mem_of_getElem? (i := 1) rfl)) (hw _ (List.mem_of_getElem? (i := 2) rfl)) rfl (by decide) (W := 0) (le_ _ _ rfl) (by decide) (pc' := 4) rfl (fun T1 P1 => ?_)
  refine blk C P1 [.aload_n 0, .aload_n 1] (by decide +kernel) (pc' := 6) (L' := [.val (.ref a), .val (.ref b), .val (.int 0)]) (S' := [.ref b, .ref a]) rfl ?_
  have hb' := C.2.2.2.1
  obtain ⟨vm0, k0, locs, X, eT, hS, hk, hC, hF, hO, hZ, hown⟩ := P1.opened C
  have Fv : Fld Z h a sST "value" "[B" .null := B.2.2 (Or.inr wlV) (ty := .array .byte) (by decide)
  have Fc : Fld Z h a sST "coder" "B" (.int 0) := B.2.2 (Or.inr wlC) (ty := .byte) (by decide)
  have nba : b ≠ a := (B.2.1.neArv V wi).symm
  have sne : RoadKit.slotOf Z sST "coder" "B" ≠ RoadKit.slotOf Z sST "value" "[B" := slot_ne (C := sST) (Or.inr wlC) (Or.inr wlV) (by decide) (t := .byte) (by decide) (t' := .array .byte) (by decide)
  obtain ⟨T4, h4, X4, e4, W4, st4⟩ := putF X C.1 hZ hown (host := "") (Or.inl wFV) Via.refl eT Fv B.2.1 (Or.inr ⟨wlV, rfl, C.2.2.2.2.2.2.1⟩) wi (ty := .array .byte) (by decide) rfl rfl (v := .ref b) (g := fr m 6 [.val (.ref a), .val (.ref b), .val (.int 0)] [.ref b, .ref a]) rfl rfl (hb hb' (pc := 6) (by decide +kernel))
  refine Run.go st4 ?_
  refine Run.go (fun t q => prun_ok X4.here C.1 [.aload_n 0, .iload_n 2] (pc := 9) (pc' := 11) (L := [.val (.ref a), .val (.ref b), .val (.int 0)]) (L' := [.val (.ref a), .val (.ref b), .val (.int 0)]) (S := []) (S' := [.int 0, .ref a]) (by rw [hb']; decide +kernel) rfl q) ?_
  have Fc4 : Fld Z h4 a sST "coder" "B" (.int 0) := Fc.other W4 (Or.inr sne)
  have A4 : Exa Z h4 a sST := B.2.1.wr W4
  obtain ⟨T6, h6, X6, e6, W6, st6⟩ := putF X4 C.1 hZ hown (host := "") (Or.inl wFC) Via.refl e4 Fc4 A4 (Or.inr ⟨wlC, rfl, C.2.2.2.2.2.2.1⟩) wi (ty := .byte) (by decide) rfl rfl (v := .int 0) (g := fr m 11 [.val (.ref a), .val (.ref b), .val (.int 0)] [.int 0, .ref a]) rfl rfl (hb hb' (pc := 11) (by decide +kernel))
  refine Run.go st6 ?_
  have S2 : Safe Z consts_1 vm0 h a := safe_blank hZ.alike B.2.1 Fv
  have S4 : Safe Z consts_1 vm0 h4 a := Safe.wr W4 S2 hC.1 S2
  have R4 := CHr.wr W4 S2 hC.1
  have R6 := CHr.wr W6 S4 R4.1
  have P6 : Pos Z consts_1 n0 p l e ({ frames := 1, cells := 0, slots := 0, locals := 12 } : Room) s m #[.ref a, .ref b, .int 0] below meth c T6 h6 0 0 :=
    ⟨vm0, k0, _, X6, e6, hS, by rw [W6.size, W4.size]; exact hk, hC.trans (R4.trans R6), Fr.snoc X6 (Fr.snoc X4 hF B.1) B.1, (hO.wr W4 B.1).wr W6 B.1⟩
  refine r_void C P6 (pc := 14) (by decide +kernel) (by decide) (by decide) ⟨rfl, ?_, ?_⟩
  · exact ((Keep.refl h [a]).wr W4 (Or.inl (by simp))).wr W6 (Or.inl (by simp))
  · exact ⟨hlen, hcs, A4.wr W6, Fc4.same W6, b, kb, (Fv.same W4).other W6 (Or.inr sne.symm), (V.other W4 nba).other W6 nba⟩
set_option maxRecDepth 65536 in
set_option maxHeartbeats 4000000 in
theorem k_valueOf (l : Launch) {Z : State} {a0 : Array Value} {n0 : Nat} {h : Heap} (hwt : ∀ d ∈ tables_1, d.before a0 Z = true) (hEL : EW Z a0 consts_1) {z : Int32} (Sz : Sta Z Z.heap sST "COMPACT_STRINGS" "Z" (.int z)) (hz : ¬ z = 0) (x : Int32) (O : Old Z n0 h) (hx : ¬ x < 0 ∧ ¬ (255 : Int32) < x) :
    Con l Z consts_1 n0 [] vOf jdk_42_method_139_code 1 (some (.object "java/lang/String")) ({ frames := 2, cells := 2, slots := 5, locals := 28 } : Room) #[.int x] h (Ret1 fun v h' => ∃ r, v = .ref r ∧ Ext h h' ∧ Str Z h' r [x]) := by
  have hw : ∀ d ∈ wV, d.before a0 Z = true := fun d hd => hwt d ((by decide +kernel : ∀ d ∈ wV, d ∈ tables_1) d hd)
  refine Con.intro (plainFor_of_name (by first | (simp [plainName, overriddenIn]; done) | decide +kernel)) O hEL ?_
  intro p e s m below meth c T C hs P
  refine Run.cast (v_ce_ef m x) ?_
  refine s_gets C P (idx := 38) (by decide +kernel) (hw _ (List.mem_of_getElem? (i := 3) rfl)) Sz (pc' := 3) rfl (fun T1 P1 => ?_)
  refine b_ifN C P1 (cd := .eq) (o := 23) (by decide +kernel) (pc' := 6) rfl hz ?_
  refine blk C P1 [.iload_n 0] (by decide +kernel) (pc' := 7) (L' := [.val (.int x)]) (S' := [.int x]) rfl ?_
  refine c_static C P1 (idx := 1015) (y := vCE) (by decide +kernel) (hw _ (List.mem_of_getElem? (i := 10) rfl)) (hw _ (List.mem_of_getElem? (i := 11) rfl)) (hw _ (List.mem_of_getElem? (i := 13) rfl)) (hw _ (List.mem_of_getElem? (i := 12) rfl)) (by decide) [.int x] [] (v_ce l hEL x P1.old hx.2) (by decide) (W := 0) (by decide) (by decide +kernel : parseMethodDescriptor "(C)Z" = some ⟨[.char], some .boolean⟩) rfl rfl rfl (le_ _ _ rfl) (le_ _ _ rfl) (le_ _ _ rfl) (pc' := 10) rfl (fun T2 h2 v2 P2 Q2 => ?_)
  obtain ⟨rfl, rfl⟩ := Q2
  refine b_ifN C P2 (cd := .eq) (o := 16) (by decide +kernel) (pc' := 13) rfl (by decide : ¬ (1 : Int32) = 0) ?_
  refine s_new C P2 (idx := 10) (by decide +kernel) (hw _ (List.mem_of_getElem? (i := 21) rfl)) (hw _ (List.mem_of_getElem? (i := 8) rfl)) (hw _ (List.mem_of_getElem? (i := 9) rfl)) (le_ _ _ rfl) (le_ _ _ rfl) (pc' := 16) rfl (fun T3 h3 P3 E3 B3 => ?_)
  refine blk C P3 [.dup, .iload_n 0] (by decide +kernel) (pc' := 18) (L' := [.val (.int x)]) (S' := [.int x, .ref h.size, .ref h.size]) rfl ?_
  refine c_static C P3 (idx := 1018) (y := vTB) (by decide +kernel) (hw _ (List.mem_of_getElem? (i := 14) rfl)) (hw _ (List.mem_of_getElem? (i := 15) rfl)) (hw _ (List.mem_of_getElem? (i := 13) rfl)) (hw _ (List.mem_of_getElem? (i := 16) rfl)) (by decide) [.int x] [.ref h.size, .ref h.size] (v_tb l hw hEL x P3.old) (by decide) (W := 2) (by decide) (by decide +kernel : parseMethodDescriptor "(C)[B" = some ⟨[.char], some (.array .byte)⟩) rfl rfl rfl (le_ _ _ rfl) (le_ _ _ rfl) (le_ _ _ rfl) (pc' := 21) rfl (fun T4 h4 v4 P4 Q4 => ?_)
  obtain ⟨b4, k4, rfl, E4, V4⟩ := Q4
  refine blk C P4 [.iconst 0] (by decide +kernel) (pc' := 22) (L' := [.val (.int x)]) (S' := [.int 0, .ref b4, .ref h.size, .ref h.size]) rfl ?_
  refine c_special C P4 (idx := 209) (y := vIB) rfl (by decide +kernel) (hw _ (List.mem_of_getElem? (i := 18) rfl)) (hw _ (List.mem_of_getElem? (i := 19) rfl)) (hw _ (List.mem_of_getElem? (i := 9) rfl)) (hw _ (List.mem_of_getElem? (i := 20) rfl)) (by decide) [.ref b4, .int 0] [.ref h.size] (v_ib l hw hEL h.size b4 (cs := [x]) P4.old (B3.ext E4) V4 (le_ _ _ rfl) (latS hx lat0)) (by decide) (W := 1) (by decide) (by decide +kernel : parseMethodDescriptor "([BB)V" = some ⟨[.array .byte, .byte], none⟩) rfl rfl rfl (le_ _ _ rfl) (le_ _ _ rfl) (le_ _ _ rfl) (pc' := 25) rfl (fun T5 h5 P5 Q5 => ?_)
  obtain ⟨K5, S5⟩ := Q5
  exact r_ref C P5 (w := .ref h.size) rfl rfl (by decide +kernel) (le_ _ _ rfl) (le_ _ _ rfl) ⟨_, rfl, h.size, rfl, exK (exT E3 E4) K5 (Nat.le_refl _), S5⟩
end Jvm.Pilot.@@N@@
namespace Jvm.Pilot.@@N@@
open Jvm Jvm.ClassFile Sem Op Lib Jvm.Free Jvm.Stand Jvm.LawKit Jvm.RoadKit Bundle Jvm.Own Jvm.Pilot.@@N@@.Jvm.D
/-- a constant of the tables, as chars -/
def txt (i : Nat) : List Int32 := match tables_1[i]? with
  | some (.stringLink _ _ t) => t.toList.map fun c => Int32.ofNat c.toNat
  | _ => []
def Wd (Z : State) (a0 : Array Value) (z : Int32) (kX uX kD uD : Addr) (dl : List Int32) : Prop := (∀ d ∈ tables_1, d.before a0 Z = true) ∧ EW Z a0 consts_1 ∧ Sta Z Z.heap sST "COMPACT_STRINGS" "Z" (.int z) ∧ (¬ z = 0) ∧
  Sta Z Z.heap "com/example/archive_packager/archivepackager/xml/Namespace" "XSI" "Lcom/example/archive_packager/archivepackager/xml/Namespace;" (.ref kX) ∧ Exa Z Z.heap kX "com/example/archive_packager/archivepackager/xml/Namespace" ∧ Fld Z Z.heap kX "com/example/archive_packager/archivepackager/xml/Namespace" "uri" "Ljava/lang/String;" (.ref uX) ∧ Str Z Z.heap uX (txt 84) ∧
  Sta Z Z.heap "com/example/archive_packager/archivepackager/xml/Namespace" "DCTERMS" "Lcom/example/archive_packager/archivepackager/xml/Namespace;" (.ref kD) ∧ Exa Z Z.heap kD "com/example/archive_packager/archivepackager/xml/Namespace" ∧ Fld Z Z.heap kD "com/example/archive_packager/archivepackager/xml/Namespace" "uri" "Ljava/lang/String;" (.ref uD) ∧ Str Z Z.heap uD dl ∧ dl.length = 25
theorem k_rec_ef (m : MethodId) (a : Addr) : entryFrame m #[.ref a] 1 = fr m 0 [.val (.ref a)] [] := by first | (simp [entryFrame, mkF, argsToLocals, Value.category]; done) | rfl
set_option maxRecDepth 65536 in
set_option maxHeartbeats 4000000 in
theorem k_rec (l : Launch) {Z : State} {a0 : Array Value} {n0 : Nat} {h : Heap} {z : Int32} {kX uX kD uD : Addr} {dl : List Int32} (wd : Wd Z a0 z kX uX kD uD dl) (a : Addr)  (O : Old Z n0 h)  :
    Con l Z consts_1 n0 [] (⟨"java/lang/Record", "<init>", "()V"⟩ : MethodName) jdk_30_method_1_code 1 none ({ frames := 1, cells := 0, slots := 0, locals := 12 } : Room) #[.ref a] h (Ret0 fun h' => h = h') := by
  obtain ⟨hw, hEL, Sz, hz, YX, XX, GX, SX, YD, XD, GD, SDt, hdl⟩ := id wd
  refine Con.intro (plainFor_of_name (by first | (simp [plainName, overriddenIn]; done) | decide +kernel)) O hEL ?_
  intro p e s m below meth c T C hs P
  have C : Ctx Z a0 consts_1 p s m meth c "java/lang/Record" "<init>" jdk_30_method_1_code 1 none := C
  refine Run.cast (k_rec_ef m a) ?_
  refine blk C P [.aload_n 0] (by decide +kernel) (pc' := 1) (L' := [.val (.ref a)]) (S' := [.ref a]) rfl ?_
  refine s_initO C P (idx := 1) (by decide +kernel) (hw _ (List.mem_of_getElem? (i := 41) rfl)) (hw _ (List.mem_of_getElem? (i := 20) rfl)) (hw _ (List.mem_of_getElem? (i := 21) rfl)) rfl (le_ _ _ rfl) (W := 0) (le_ _ _ rfl) (le_ _ _ rfl) (pc' := 4) rfl (fun T1 P1 => ?_)
  exact r_void C P1 (by decide +kernel) (le_ _ _ rfl) (le_ _ _ rfl) ⟨rfl, rfl⟩
theorem k_ns_ef (m : MethodId) (a pf ur : Addr) : entryFrame m #[.ref a, .ref pf, .ref ur] 3 = fr m 0 [.val (.ref a), .val (.ref pf), .val (.ref ur)] [] := by first | (simp [entryFrame, mkF, argsToLocals, Value.category]; done) | rfl
set_option maxRecDepth 65536 in
set_option maxHeartbeats 4000000 in
theorem k_ns (l : Launch) {Z : State} {a0 : Array Value} {n0 : Nat} {h : Heap} {z : Int32} {kX uX kD uD : Addr} {dl : List Int32} (wd : Wd Z a0 z kX uX kD uD dl) (a pf ur : Addr)  (O : Old Z n0 h) (B : Blk Z a0 n0 h a "com/example/archive_packager/archivepackager/xml/Namespace") :
    Con l Z consts_1 n0 [] (⟨"com/example/archive_packager/archivepackager/xml/Namespace", "<init>", "(Ljava/lang/String;Ljava/lang/String;)V"⟩ : MethodName) prog_104_method_1_code 3 none ({ frames := 2, cells := 0, slots := 0, locals := 24 } : Room) #[.ref a, .ref pf, .ref ur] h (Ret0 fun h' => Keep h h' [a] ∧ Exa Z h' a "com/example/archive_packager/archivepackager/xml/Namespace" ∧ Fld Z h' a "com/example/archive_packager/archivepackager/xml/Namespace" "uri" "Ljava/lang/String;" (.ref ur)) := by
  obtain ⟨hw, hEL, Sz, hz, YX, XX, GX, SX, YD, XD, GD, SDt, hdl⟩ := id wd
  refine Con.intro (plainFor_of_name (by first | (simp [plainName, overriddenIn]; done) | decide +kernel)) O hEL ?_
  intro p e s m below meth c T C hs P
  have C : Ctx Z a0 consts_1 p s m meth c "com/example/archive_packager/archivepackager/xml/Namespace" "<init>" prog_104_method_1_code 3 none := C
  refine Run.cast (k_ns_ef m a pf ur) ?_
  refine blk C P [.aload_n 0] (by decide +kernel) (pc' := 1) (L' := [.val (.ref a), .val (.ref pf), .val (.ref ur)]) (S' := [.ref a]) rfl ?_
  refine c_special C P (idx := 1) (y := (⟨"java/lang/Record", "<init>", "()V"⟩ : MethodName)) (ybytes := jdk_30_method_1_code) (ymax := 1) (yrm := ({ frames := 1, cells := 0, slots := 0, locals := 12 } : Room)) rfl (by decide +kernel) (hw _ (List.mem_of_getElem? (i := 63) rfl)) (hw _ (List.mem_of_getElem? (i := 37) rfl)) (hw _ (List.mem_of_getElem? (i := 39) rfl)) (hw _ (List.mem_of_getElem? (i := 40) rfl)) (by decide) [] [] (k_rec l wd a P.old ) (le_ _ _ rfl) (W := 0) (le_ _ _ rfl) (by decide +kernel : parseMethodDescriptor "()V" = some ⟨[], none⟩) rfl rfl rfl (le_ _ _ rfl) (le_ _ _ rfl) (le_ _ _ rfl) (pc' := 4) rfl (fun T1 h1 P1 Q1 => ?_)
  replace P1 := P1.more (k' := 0) (n' := 0) (le_ _ _ rfl) (le_ _ _ rfl)
  obtain rfl := Q1
  refine blk C P1 [.aload_n 0, .aload_n 1] (by decide +kernel) (pc' := 6) (L' := [.val (.ref a), .val (.ref pf), .val (.ref ur)]) (S' := [.ref pf, .ref a]) rfl ?_
  refine s_putf C P1 (idx := 7) (by decide +kernel) (hw _ (List.mem_of_getElem? (i := 64) rfl)) B.1 (B.2.2 (Or.inr (hw _ (List.mem_of_getElem? (i := 65) rfl))) (ty := (.object "java/lang/String")) (by decide)) B.2.1 (hw _ (List.mem_of_getElem? (i := 65) rfl)) rfl (hw _ (List.mem_of_getElem? (i := 58) rfl)) (by decide) (ty := (.object "java/lang/String")) (by decide) rfl rfl (pc' := 9) rfl (fun T2 h2 P2 W2 => ?_)
  have G3 := B.2.1.wr W2
  have G4 := (B.2.2 (Or.inr (hw _ (List.mem_of_getElem? (i := 65) rfl))) (ty := (.object "java/lang/String")) (by decide)).same W2
  have G5 := (B.2.2 (Or.inr (hw _ (List.mem_of_getElem? (i := 67) rfl))) (ty := (.object "java/lang/String")) (by decide)).other W2 (Or.inr (slot_ne (C := "com/example/archive_packager/archivepackager/xml/Namespace") (Or.inr (hw _ (List.mem_of_getElem? (i := 67) rfl))) (Or.inr (hw _ (List.mem_of_getElem? (i := 65) rfl))) (by decide) (t := (.object "java/lang/String")) (by decide) (t' := (.object "java/lang/String")) (by decide)))
  refine blk C P2 [.aload_n 0, .aload_n 2] (by decide +kernel) (pc' := 11) (L' := [.val (.ref a), .val (.ref pf), .val (.ref ur)]) (S' := [.ref ur, .ref a]) rfl ?_
  refine s_putf C P2 (idx := 13) (by decide +kernel) (hw _ (List.mem_of_getElem? (i := 66) rfl)) B.1 G5 G3 (hw _ (List.mem_of_getElem? (i := 67) rfl)) rfl (hw _ (List.mem_of_getElem? (i := 58) rfl)) (by decide) (ty := (.object "java/lang/String")) (by decide) rfl rfl (pc' := 14) rfl (fun T6 h6 P6 W6 => ?_)
  have G7 := G3.wr W6
  have G8 := G4.other W6 (Or.inr (slot_ne (C := "com/example/archive_packager/archivepackager/xml/Namespace") (Or.inr (hw _ (List.mem_of_getElem? (i := 65) rfl))) (Or.inr (hw _ (List.mem_of_getElem? (i := 67) rfl))) (by decide) (t := (.object "java/lang/String")) (by decide) (t' := (.object "java/lang/String")) (by decide)))
  have G9 := G5.same W6
  exact r_void C P6 (by decide +kernel) (le_ _ _ rfl) (le_ _ _ rfl) ⟨rfl, (((Keep.refl h [a]).wr W2 (Or.inl (List.mem_singleton.mpr rfl))).wr W6 (Or.inl (List.mem_singleton.mpr rfl))), G7, G9⟩
theorem k_uri_ef (m : MethodId) (a ur : Addr) : entryFrame m #[.ref a] 1 = fr m 0 [.val (.ref a)] [] := by first | (simp [entryFrame, mkF, argsToLocals, Value.category]; done) | rfl
set_option maxRecDepth 65536 in
set_option maxHeartbeats 4000000 in
theorem k_uri (l : Launch) {Z : State} {a0 : Array Value} {n0 : Nat} {h : Heap} {z : Int32} {kX uX kD uD : Addr} {dl : List Int32} (wd : Wd Z a0 z kX uX kD uD dl) (a ur : Addr)  (O : Old Z n0 h) (G : Fld Z h a "com/example/archive_packager/archivepackager/xml/Namespace" "uri" "Ljava/lang/String;" (.ref ur)) :
    Con l Z consts_1 n0 [] (⟨"com/example/archive_packager/archivepackager/xml/Namespace", "uri", "()Ljava/lang/String;"⟩ : MethodName) prog_104_method_6_code 1 (some (.object "java/lang/String")) ({ frames := 0, cells := 0, slots := 0, locals := 0 } : Room) #[.ref a] h (Ret1 fun v h' => v = .ref ur ∧ h = h') := by
  obtain ⟨hw, hEL, Sz, hz, YX, XX, GX, SX, YD, XD, GD, SDt, hdl⟩ := id wd
  refine Con.intro (plainFor_of_name (by first | (simp [plainName, overriddenIn]; done) | decide +kernel)) O hEL ?_
  intro p e s m below meth c T C hs P
  have C : Ctx Z a0 consts_1 p s m meth c "com/example/archive_packager/archivepackager/xml/Namespace" "uri" prog_104_method_6_code 1 (some (.object "java/lang/String")) := C
  refine Run.cast (k_uri_ef m a ur) ?_
  refine blk C P [.aload_n 0] (by decide +kernel) (pc' := 1) (L' := [.val (.ref a)]) (S' := [.ref a]) rfl ?_
  refine s_getf C P (idx := 13) (by decide +kernel) (hw _ (List.mem_of_getElem? (i := 66) rfl)) G (pc' := 4) rfl (fun T1 P1 => ?_)
  exact r_ref C P1 (w := .ref ur) rfl rfl (by decide +kernel) (le_ _ _ rfl) (le_ _ _ rfl) ⟨_, rfl, rfl, rfl⟩
theorem k_att_nn_ef (m : MethodId) (a nm vl : Addr) : entryFrame m #[.ref a, .null, .ref nm, .ref vl, .null] 5 = fr m 0 [.val (.ref a), .val (.null), .val (.ref nm), .val (.ref vl), .val (.null)] [] := by first | (simp [entryFrame, mkF, argsToLocals, Value.category]; done) | rfl
set_option maxRecDepth 65536 in
set_option maxHeartbeats 4000000 in
theorem k_att_nn (l : Launch) {Z : State} {a0 : Array Value} {n0 : Nat} {h : Heap} {z : Int32} {kX uX kD uD : Addr} {dl : List Int32} (wd : Wd Z a0 z kX uX kD uD dl) (a nm vl : Addr)  (O : Old Z n0 h) (B : Blk Z a0 n0 h a "com/example/archive_packager/archivepackager/dc/DcElement$Attribute") :
    Con l Z consts_1 n0 [] (⟨"com/example/archive_packager/archivepackager/dc/DcElement$Attribute", "<init>", "(Lcom/example/archive_packager/archivepackager/xml/Namespace;Ljava/lang/String;Ljava/lang/String;Lcom/example/archive_packager/archivepackager/xml/Namespace;)V"⟩ : MethodName) prog_13_method_1_code 5 none ({ frames := 2, cells := 0, slots := 0, locals := 24 } : Room) #[.ref a, .null, .ref nm, .ref vl, .null] h (Ret0 fun h' => Keep h h' [a] ∧ Exa Z h' a "com/example/archive_packager/archivepackager/dc/DcElement$Attribute" ∧ Fld Z h' a "com/example/archive_packager/archivepackager/dc/DcElement$Attribute" "namespace" "Lcom/example/archive_packager/archivepackager/xml/Namespace;" (.null) ∧ Fld Z h' a "com/example/archive_packager/archivepackager/dc/DcElement$Attribute" "name" "Ljava/lang/String;" (.ref nm)) := by
  obtain ⟨hw, hEL, Sz, hz, YX, XX, GX, SX, YD, XD, GD, SDt, hdl⟩ := id wd
  refine Con.intro (plainFor_of_name (by first | (simp [plainName, overriddenIn]; done) | decide +kernel)) O hEL ?_
  intro p e s m below meth c T C hs P
  have C : Ctx Z a0 consts_1 p s m meth c "com/example/archive_packager/archivepackager/dc/DcElement$Attribute" "<init>" prog_13_method_1_code 5 none := C
  refine Run.cast (k_att_nn_ef m a nm vl) ?_
  refine blk C P [.aload_n 0] (by decide +kernel) (pc' := 1) (L' := [.val (.ref a), .val (.null), .val (.ref nm), .val (.ref vl), .val (.null)]) (S' := [.ref a]) rfl ?_
  refine c_special C P (idx := 1) (y := (⟨"java/lang/Record", "<init>", "()V"⟩ : MethodName)) (ybytes := jdk_30_method_1_code) (ymax := 1) (yrm := ({ frames := 1, cells := 0, slots := 0, locals := 12 } : Room)) rfl (by decide +kernel) (hw _ (List.mem_of_getElem? (i := 36) rfl)) (hw _ (List.mem_of_getElem? (i := 37) rfl)) (hw _ (List.mem_of_getElem? (i := 39) rfl)) (hw _ (List.mem_of_getElem? (i := 40) rfl)) (by decide) [] [] (k_rec l wd a P.old ) (le_ _ _ rfl) (W := 0) (le_ _ _ rfl) (by decide +kernel : parseMethodDescriptor "()V" = some ⟨[], none⟩) rfl rfl rfl (le_ _ _ rfl) (le_ _ _ rfl) (le_ _ _ rfl) (pc' := 4) rfl (fun T1 h1 P1 Q1 => ?_)
  replace P1 := P1.more (k' := 0) (n' := 0) (le_ _ _ rfl) (le_ _ _ rfl)
  obtain rfl := Q1
  refine blk C P1 [.aload_n 0, .aload_n 1] (by decide +kernel) (pc' := 6) (L' := [.val (.ref a), .val (.null), .val (.ref nm), .val (.ref vl), .val (.null)]) (S' := [.null, .ref a]) rfl ?_
  refine s_putf C P1 (idx := 7) (by decide +kernel) (hw _ (List.mem_of_getElem? (i := 42) rfl)) B.1 (B.2.2 (Or.inr (hw _ (List.mem_of_getElem? (i := 43) rfl))) (ty := (.object "com/example/archive_packager/archivepackager/xml/Namespace")) (by decide)) B.2.1 (hw _ (List.mem_of_getElem? (i := 43) rfl)) rfl (hw _ (List.mem_of_getElem? (i := 31) rfl)) (by decide) (ty := (.object "com/example/archive_packager/archivepackager/xml/Namespace")) (by decide) rfl rfl (pc' := 9) rfl (fun T2 h2 P2 W2 => ?_)
  have G3 := B.2.1.wr W2
  have G4 := (B.2.2 (Or.inr (hw _ (List.mem_of_getElem? (i := 43) rfl))) (ty := (.object "com/example/archive_packager/archivepackager/xml/Namespace")) (by decide)).same W2
  have G5 := (B.2.2 (Or.inr (hw _ (List.mem_of_getElem? (i := 45) rfl))) (ty := (.object "java/lang/String")) (by decide)).other W2 (Or.inr (slot_ne (C := "com/example/archive_packager/archivepackager/dc/DcElement$Attribute") (Or.inr (hw _ (List.mem_of_getElem? (i := 45) rfl))) (Or.inr (hw _ (List.mem_of_getElem? (i := 43) rfl))) (by decide) (t := (.object "java/lang/String")) (by decide) (t' := (.object "com/example/archive_packager/archivepackager/xml/Namespace")) (by decide)))
  have G6 := (B.2.2 (Or.inr (hw _ (List.mem_of_getElem? (i := 47) rfl))) (ty := (.object "java/lang/String")) (by decide)).other W2 (Or.inr (slot_ne (C := "com/example/archive_packager/archivepackager/dc/DcElement$Attribute") (Or.inr (hw _ (List.mem_of_getElem? (i := 47) rfl))) (Or.inr (hw _ (List.mem_of_getElem? (i := 43) rfl))) (by decide) (t := (.object "java/lang/String")) (by decide) (t' := (.object "com/example/archive_packager/archivepackager/xml/Namespace")) (by decide)))
  have G7 := (B.2.2 (Or.inr (hw _ (List.mem_of_getElem? (i := 49) rfl))) (ty := (.object "com/example/archive_packager/archivepackager/xml/Namespace")) (by decide)).other W2 (Or.inr (slot_ne (C := "com/example/archive_packager/archivepackager/dc/DcElement$Attribute") (Or.inr (hw _ (List.mem_of_getElem? (i := 49) rfl))) (Or.inr (hw _ (List.mem_of_getElem? (i := 43) rfl))) (by decide) (t := (.object "com/example/archive_packager/archivepackager/xml/Namespace")) (by decide) (t' := (.object "com/example/archive_packager/archivepackager/xml/Namespace")) (by decide)))
  refine blk C P2 [.aload_n 0, .aload_n 2] (by decide +kernel) (pc' := 11) (L' := [.val (.ref a), .val (.null), .val (.ref nm), .val (.ref vl), .val (.null)]) (S' := [.ref nm, .ref a]) rfl ?_
  refine s_putf C P2 (idx := 13) (by decide +kernel) (hw _ (List.mem_of_getElem? (i := 44) rfl)) B.1 G5 G3 (hw _ (List.mem_of_getElem? (i := 45) rfl)) rfl (hw _ (List.mem_of_getElem? (i := 31) rfl)) (by decide) (ty := (.object "java/lang/String")) (by decide) rfl rfl (pc' := 14) rfl (fun T8 h8 P8 W8 => ?_)
  have G9 := G3.wr W8
  have G10 := G4.other W8 (Or.inr (slot_ne (C := "com/example/archive_packager/archivepackager/dc/DcElement$Attribute") (Or.inr (hw _ (List.mem_of_getElem? (i := 43) rfl))) (Or.inr (hw _ (List.mem_of_getElem? (i := 45) rfl))) (by decide) (t := (.object "com/example/archive_packager/archivepackager/xml/Namespace")) (by decide) (t' := (.object "java/lang/String")) (by decide)))
  have G11 := G5.same W8
  have G12 := G6.other W8 (Or.inr (slot_ne (C := "com/example/archive_packager/archivepackager/dc/DcElement$Attribute") (Or.inr (hw _ (List.mem_of_getElem? (i := 47) rfl))) (Or.inr (hw _ (List.mem_of_getElem? (i := 45) rfl))) (by decide) (t := (.object "java/lang/String")) (by decide) (t' := (.object "java/lang/String")) (by decide)))
  have G13 := G7.other W8 (Or.inr (slot_ne (C := "com/example/archive_packager/archivepackager/dc/DcElement$Attribute") (Or.inr (hw _ (List.mem_of_getElem? (i := 49) rfl))) (Or.inr (hw _ (List.mem_of_getElem? (i := 45) rfl))) (by decide) (t := (.object "com/example/archive_packager/archivepackager/xml/Namespace")) (by decide) (t' := (.object "java/lang/String")) (by decide)))
  refine blk C P8 [.aload_n 0, .aload_n 3] (by decide +kernel) (pc' := 16) (L' := [.val (.ref a), .val (.null), .val (.ref nm), .val (.ref vl), .val (.null)]) (S' := [.ref vl, .ref a]) rfl ?_
  refine s_putf C P8 (idx := 17) (by decide +kernel) (hw _ (List.mem_of_getElem? (i := 46) rfl)) B.1 G12 G9 (hw _ (List.mem_of_getElem? (i := 47) rfl)) rfl (hw _ (List.mem_of_getElem? (i := 31) rfl)) (by decide) (ty := (.object "java/lang/String")) (by decide) rfl rfl (pc' := 19) rfl (fun T14 h14 P14 W14 => ?_)
  have G15 := G9.wr W14
  have G16 := G10.other W14 (Or.inr (slot_ne (C := "com/example/archive_packager/archivepackager/dc/DcElement$Attribute") (Or.inr (hw _ (List.mem_of_getElem? (i := 43) rfl))) (Or.inr (hw _ (List.mem_of_getElem? (i := 47) rfl))) (by decide) (t := (.object "com/example/archive_packager/archivepackager/xml/Namespace")) (by decide) (t' := (.object "java/lang/String")) (by decide)))
  have G17 := G11.other W14 (Or.inr (slot_ne (C := "com/example/archive_packager/archivepackager/dc/DcElement$Attribute") (Or.inr (hw _ (List.mem_of_getElem? (i := 45) rfl))) (Or.inr (hw _ (List.mem_of_getElem? (i := 47) rfl))) (by decide) (t := (.object "java/lang/String")) (by decide) (t' := (.object "java/lang/String")) (by decide)))
  have G18 := G12.same W14
  have G19 := G13.other W14 (Or.inr (slot_ne (C := "com/example/archive_packager/archivepackager/dc/DcElement$Attribute") (Or.inr (hw _ (List.mem_of_getElem? (i := 49) rfl))) (Or.inr (hw _ (List.mem_of_getElem? (i := 47) rfl))) (by decide) (t := (.object "com/example/archive_packager/archivepackager/xml/Namespace")) (by decide) (t' := (.object "java/lang/String")) (by decide)))
  refine blk C P14 [.aload_n 0, .aload 4] (by decide +kernel) (pc' := 22) (L' := [.val (.ref a), .val (.null), .val (.ref nm), .val (.ref vl), .val (.null)]) (S' := [.null, .ref a]) rfl ?_
  refine s_putf C P14 (idx := 20) (by decide +kernel) (hw _ (List.mem_of_getElem? (i := 48) rfl)) B.1 G19 G15 (hw _ (List.mem_of_getElem? (i := 49) rfl)) rfl (hw _ (List.mem_of_getElem? (i := 31) rfl)) (by decide) (ty := (.object "com/example/archive_packager/archivepackager/xml/Namespace")) (by decide) rfl rfl (pc' := 25) rfl (fun T20 h20 P20 W20 => ?_)
  have G21 := G15.wr W20
  have G22 := G16.other W20 (Or.inr (slot_ne (C := "com/example/archive_packager/archivepackager/dc/DcElement$Attribute") (Or.inr (hw _ (List.mem_of_getElem? (i := 43) rfl))) (Or.inr (hw _ (List.mem_of_getElem? (i := 49) rfl))) (by decide) (t := (.object "com/example/archive_packager/archivepackager/xml/Namespace")) (by decide) (t' := (.object "com/example/archive_packager/archivepackager/xml/Namespace")) (by decide)))
  have G23 := G17.other W20 (Or.inr (slot_ne (C := "com/example/archive_packager/archivepackager/dc/DcElement$Attribute") (Or.inr (hw _ (List.mem_of_getElem? (i := 45) rfl))) (Or.inr (hw _ (List.mem_of_getElem? (i := 49) rfl))) (by decide) (t := (.object "java/lang/String")) (by decide) (t' := (.object "com/example/archive_packager/archivepackager/xml/Namespace")) (by decide)))
  have G24 := G18.other W20 (Or.inr (slot_ne (C := "com/example/archive_packager/archivepackager/dc/DcElement$Attribute") (Or.inr (hw _ (List.mem_of_getElem? (i := 47) rfl))) (Or.inr (hw _ (List.mem_of_getElem? (i := 49) rfl))) (by decide) (t := (.object "java/lang/String")) (by decide) (t' := (.object "com/example/archive_packager/archivepackager/xml/Namespace")) (by decide)))
  have G25 := G19.same W20
  exact r_void C P20 (by decide +kernel) (le_ _ _ rfl) (le_ _ _ rfl) ⟨rfl, (((((Keep.refl h [a]).wr W2 (Or.inl (List.mem_singleton.mpr rfl))).wr W8 (Or.inl (List.mem_singleton.mpr rfl))).wr W14 (Or.inl (List.mem_singleton.mpr rfl))).wr W20 (Or.inl (List.mem_singleton.mpr rfl))), G21, G22, G23⟩
theorem k_att_nr_ef (m : MethodId) (a nm vl vns : Addr) : entryFrame m #[.ref a, .null, .ref nm, .ref vl, .ref vns] 5 = fr m 0 [.val (.ref a), .val (.null), .val (.ref nm), .val (.ref vl), .val (.ref vns)] [] := by first | (simp [entryFrame, mkF, argsToLocals, Value.category]; done) | rfl
set_option maxRecDepth 65536 in
set_option maxHeartbeats 4000000 in
theorem k_att_nr (l : Launch) {Z : State} {a0 : Array Value} {n0 : Nat} {h : Heap} {z : Int32} {kX uX kD uD : Addr} {dl : List Int32} (wd : Wd Z a0 z kX uX kD uD dl) (a nm vl vns : Addr)  (O : Old Z n0 h) (B : Blk Z a0 n0 h a "com/example/archive_packager/archivepackager/dc/DcElement$Attribute") :
    Con l Z consts_1 n0 [] (⟨"com/example/archive_packager/archivepackager/dc/DcElement$Attribute", "<init>", "(Lcom/example/archive_packager/archivepackager/xml/Namespace;Ljava/lang/String;Ljava/lang/String;Lcom/example/archive_packager/archivepackager/xml/Namespace;)V"⟩ : MethodName) prog_13_method_1_code 5 none ({ frames := 2, cells := 0, slots := 0, locals := 24 } : Room) #[.ref a, .null, .ref nm, .ref vl, .ref vns] h (Ret0 fun h' => Keep h h' [a] ∧ Exa Z h' a "com/example/archive_packager/archivepackager/dc/DcElement$Attribute" ∧ Fld Z h' a "com/example/archive_packager/archivepackager/dc/DcElement$Attribute" "namespace" "Lcom/example/archive_packager/archivepackager/xml/Namespace;" (.null) ∧ Fld Z h' a "com/example/archive_packager/archivepackager/dc/DcElement$Attribute" "name" "Ljava/lang/String;" (.ref nm)) := by
  obtain ⟨hw, hEL, Sz, hz, YX, XX, GX, SX, YD, XD, GD, SDt, hdl⟩ := id wd
  refine Con.intro (plainFor_of_name (by first | (simp [plainName, overriddenIn]; done) | decide +kernel)) O hEL ?_
  intro p e s m below meth c T C hs P
  have C : Ctx Z a0 consts_1 p s m meth c "com/example/archive_packager/archivepackager/dc/DcElement$Attribute" "<init>" prog_13_method_1_code 5 none := C
  refine Run.cast (k_att_nr_ef m a nm vl vns) ?_
  refine blk C P [.aload_n 0] (by decide +kernel) (pc' := 1) (L' := [.val (.ref a), .val (.null), .val (.ref nm), .val (.ref vl), .val (.ref vns)]) (S' := [.ref a]) rfl ?_
  refine c_special C P (idx := 1) (y := (⟨"java/lang/Record", "<init>", "()V"⟩ : MethodName)) (ybytes := jdk_30_method_1_code) (ymax := 1) (yrm := ({ frames := 1, cells := 0, slots := 0, locals := 12 } : Room)) rfl (by decide +kernel) (hw _ (List.mem_of_getElem? (i := 36) rfl)) (hw _ (List.mem_of_getElem? (i := 37) rfl)) (hw _ (List.mem_of_getElem? (i := 39) rfl)) (hw _ (List.mem_of_getElem? (i := 40) rfl)) (by decide) [] [] (k_rec l wd a P.old ) (le_ _ _ rfl) (W := 0) (le_ _ _ rfl) (by decide +kernel : parseMethodDescriptor "()V" = some ⟨[], none⟩) rfl rfl rfl (le_ _ _ rfl) (le_ _ _ rfl) (le_ _ _ rfl) (pc' := 4) rfl (fun T1 h1 P1 Q1 => ?_)
  replace P1 := P1.more (k' := 0) (n' := 0) (le_ _ _ rfl) (le_ _ _ rfl)
  obtain rfl := Q1
  refine blk C P1 [.aload_n 0, .aload_n 1] (by decide +kernel) (pc' := 6) (L' := [.val (.ref a), .val (.null), .val (.ref nm), .val (.ref vl), .val (.ref vns)]) (S' := [.null, .ref a]) rfl ?_
  refine s_putf C P1 (idx := 7) (by decide +kernel) (hw _ (List.mem_of_getElem? (i := 42) rfl)) B.1 (B.2.2 (Or.inr (hw _ (List.mem_of_getElem? (i := 43) rfl))) (ty := (.object "com/example/archive_packager/archivepackager/xml/Namespace")) (by decide)) B.2.1 (hw _ (List.mem_of_getElem? (i := 43) rfl)) rfl (hw _ (List.mem_of_getElem? (i := 31) rfl)) (by decide) (ty := (.object "com/example/archive_packager/archivepackager/xml/Namespace")) (by decide) rfl rfl (pc' := 9) rfl (fun T2 h2 P2 W2 => ?_)
  have G3 := B.2.1.wr W2
  have G4 := (B.2.2 (Or.inr (hw _ (List.mem_of_getElem? (i := 43) rfl))) (ty := (.object "com/example/archive_packager/archivepackager/xml/Namespace")) (by decide)).same W2
  have G5 := (B.2.2 (Or.inr (hw _ (List.mem_of_getElem? (i := 45) rfl))) (ty := (.object "java/lang/String")) (by decide)).other W2 (Or.inr (slot_ne (C := "com/example/archive_packager/archivepackager/dc/DcElement$Attribute") (Or.inr (hw _ (List.mem_of_getElem? (i := 45) rfl))) (Or.inr (hw _ (List.mem_of_getElem? (i := 43) rfl))) (by decide) (t := (.object "java/lang/String")) (by decide) (t' := (.object "com/example/archive_packager/archivepackager/xml/Namespace")) (by decide)))
  have G6 := (B.2.2 (Or.inr (hw _ (List.mem_of_getElem? (i := 47) rfl))) (ty := (.object "java/lang/String")) (by decide)).other W2 (Or.inr (slot_ne (C := "com/example/archive_packager/archivepackager/dc/DcElement$Attribute") (Or.inr (hw _ (List.mem_of_getElem? (i := 47) rfl))) (Or.inr (hw _ (List.mem_of_getElem? (i := 43) rfl))) (by decide) (t := (.object "java/lang/String")) (by decide) (t' := (.object "com/example/archive_packager/archivepackager/xml/Namespace")) (by decide)))
  have G7 := (B.2.2 (Or.inr (hw _ (List.mem_of_getElem? (i := 49) rfl))) (ty := (.object "com/example/archive_packager/archivepackager/xml/Namespace")) (by decide)).other W2 (Or.inr (slot_ne (C := "com/example/archive_packager/archivepackager/dc/DcElement$Attribute") (Or.inr (hw _ (List.mem_of_getElem? (i := 49) rfl))) (Or.inr (hw _ (List.mem_of_getElem? (i := 43) rfl))) (by decide) (t := (.object "com/example/archive_packager/archivepackager/xml/Namespace")) (by decide) (t' := (.object "com/example/archive_packager/archivepackager/xml/Namespace")) (by decide)))
  refine blk C P2 [.aload_n 0, .aload_n 2] (by decide +kernel) (pc' := 11) (L' := [.val (.ref a), .val (.null), .val (.ref nm), .val (.ref vl), .val (.ref vns)]) (S' := [.ref nm, .ref a]) rfl ?_
  refine s_putf C P2 (idx := 13) (by decide +kernel) (hw _ (List.mem_of_getElem? (i := 44) rfl)) B.1 G5 G3 (hw _ (List.mem_of_getElem? (i := 45) rfl)) rfl (hw _ (List.mem_of_getElem? (i := 31) rfl)) (by decide) (ty := (.object "java/lang/String")) (by decide) rfl rfl (pc' := 14) rfl (fun T8 h8 P8 W8 => ?_)
  have G9 := G3.wr W8
  have G10 := G4.other W8 (Or.inr (slot_ne (C := "com/example/archive_packager/archivepackager/dc/DcElement$Attribute") (Or.inr (hw _ (List.mem_of_getElem? (i := 43) rfl))) (Or.inr (hw _ (List.mem_of_getElem? (i := 45) rfl))) (by decide) (t := (.object "com/example/archive_packager/archivepackager/xml/Namespace")) (by decide) (t' := (.object "java/lang/String")) (by decide)))
  have G11 := G5.same W8
  have G12 := G6.other W8 (Or.inr (slot_ne (C := "com/example/archive_packager/archivepackager/dc/DcElement$Attribute") (Or.inr (hw _ (List.mem_of_getElem? (i := 47) rfl))) (Or.inr (hw _ (List.mem_of_getElem? (i := 45) rfl))) (by decide) (t := (.object "java/lang/String")) (by decide) (t' := (.object "java/lang/String")) (by decide)))
  have G13 := G7.other W8 (Or.inr (slot_ne (C := "com/example/archive_packager/archivepackager/dc/DcElement$Attribute") (Or.inr (hw _ (List.mem_of_getElem? (i := 49) rfl))) (Or.inr (hw _ (List.mem_of_getElem? (i := 45) rfl))) (by decide) (t := (.object "com/example/archive_packager/archivepackager/xml/Namespace")) (by decide) (t' := (.object "java/lang/String")) (by decide)))
  refine blk C P8 [.aload_n 0, .aload_n 3] (by decide +kernel) (pc' := 16) (L' := [.val (.ref a), .val (.null), .val (.ref nm), .val (.ref vl), .val (.ref vns)]) (S' := [.ref vl, .ref a]) rfl ?_
  refine s_putf C P8 (idx := 17) (by decide +kernel) (hw _ (List.mem_of_getElem? (i := 46) rfl)) B.1 G12 G9 (hw _ (List.mem_of_getElem? (i := 47) rfl)) rfl (hw _ (List.mem_of_getElem? (i := 31) rfl)) (by decide) (ty := (.object "java/lang/String")) (by decide) rfl rfl (pc' := 19) rfl (fun T14 h14 P14 W14 => ?_)
  have G15 := G9.wr W14
  have G16 := G10.other W14 (Or.inr (slot_ne (C := "com/example/archive_packager/archivepackager/dc/DcElement$Attribute") (Or.inr (hw _ (List.mem_of_getElem? (i := 43) rfl))) (Or.inr (hw _ (List.mem_of_getElem? (i := 47) rfl))) (by decide) (t := (.object "com/example/archive_packager/archivepackager/xml/Namespace")) (by decide) (t' := (.object "java/lang/String")) (by decide)))
  have G17 := G11.other W14 (Or.inr (slot_ne (C := "com/example/archive_packager/archivepackager/dc/DcElement$Attribute") (Or.inr (hw _ (List.mem_of_getElem? (i := 45) rfl))) (Or.inr (hw _ (List.mem_of_getElem? (i := 47) rfl))) (by decide) (t := (.object "java/lang/String")) (by decide) (t' := (.object "java/lang/String")) (by decide)))
  have G18 := G12.same W14
  have G19 := G13.other W14 (Or.inr (slot_ne (C := "com/example/archive_packager/archivepackager/dc/DcElement$Attribute") (Or.inr (hw _ (List.mem_of_getElem? (i := 49) rfl))) (Or.inr (hw _ (List.mem_of_getElem? (i := 47) rfl))) (by decide) (t := (.object "com/example/archive_packager/archivepackager/xml/Namespace")) (by decide) (t' := (.object "java/lang/String")) (by decide)))
  refine blk C P14 [.aload_n 0, .aload 4] (by decide +kernel) (pc' := 22) (L' := [.val (.ref a), .val (.null), .val (.ref nm), .val (.ref vl), .val (.ref vns)]) (S' := [.ref vns, .ref a]) rfl ?_
  refine s_putf C P14 (idx := 20) (by decide +kernel) (hw _ (List.mem_of_getElem? (i := 48) rfl)) B.1 G19 G15 (hw _ (List.mem_of_getElem? (i := 49) rfl)) rfl (hw _ (List.mem_of_getElem? (i := 31) rfl)) (by decide) (ty := (.object "com/example/archive_packager/archivepackager/xml/Namespace")) (by decide) rfl rfl (pc' := 25) rfl (fun T20 h20 P20 W20 => ?_)
  have G21 := G15.wr W20
  have G22 := G16.other W20 (Or.inr (slot_ne (C := "com/example/archive_packager/archivepackager/dc/DcElement$Attribute") (Or.inr (hw _ (List.mem_of_getElem? (i := 43) rfl))) (Or.inr (hw _ (List.mem_of_getElem? (i := 49) rfl))) (by decide) (t := (.object "com/example/archive_packager/archivepackager/xml/Namespace")) (by decide) (t' := (.object "com/example/archive_packager/archivepackager/xml/Namespace")) (by decide)))
  have G23 := G17.other W20 (Or.inr (slot_ne (C := "com/example/archive_packager/archivepackager/dc/DcElement$Attribute") (Or.inr (hw _ (List.mem_of_getElem? (i := 45) rfl))) (Or.inr (hw _ (List.mem_of_getElem? (i := 49) rfl))) (by decide) (t := (.object "java/lang/String")) (by decide) (t' := (.object "com/example/archive_packager/archivepackager/xml/Namespace")) (by decide)))
  have G24 := G18.other W20 (Or.inr (slot_ne (C := "com/example/archive_packager/archivepackager/dc/DcElement$Attribute") (Or.inr (hw _ (List.mem_of_getElem? (i := 47) rfl))) (Or.inr (hw _ (List.mem_of_getElem? (i := 49) rfl))) (by decide) (t := (.object "java/lang/String")) (by decide) (t' := (.object "com/example/archive_packager/archivepackager/xml/Namespace")) (by decide)))
  have G25 := G19.same W20
  exact r_void C P20 (by decide +kernel) (le_ _ _ rfl) (le_ _ _ rfl) ⟨rfl, (((((Keep.refl h [a]).wr W2 (Or.inl (List.mem_singleton.mpr rfl))).wr W8 (Or.inl (List.mem_singleton.mpr rfl))).wr W14 (Or.inl (List.mem_singleton.mpr rfl))).wr W20 (Or.inl (List.mem_singleton.mpr rfl))), G21, G22, G23⟩
theorem k_att_rn_ef (m : MethodId) (a nsp nm vl : Addr) : entryFrame m #[.ref a, .ref nsp, .ref nm, .ref vl, .null] 5 = fr m 0 [.val (.ref a), .val (.ref nsp), .val (.ref nm), .val (.ref vl), .val (.null)] [] := by first | (simp [entryFrame, mkF, argsToLocals, Value.category]; done) | rfl
set_option maxRecDepth 65536 in
set_option maxHeartbeats 4000000 in
theorem k_att_rn (l : Launch) {Z : State} {a0 : Array Value} {n0 : Nat} {h : Heap} {z : Int32} {kX uX kD uD : Addr} {dl : List Int32} (wd : Wd Z a0 z kX uX kD uD dl) (a nsp nm vl : Addr)  (O : Old Z n0 h) (B : Blk Z a0 n0 h a "com/example/archive_packager/archivepackager/dc/DcElement$Attribute") :
    Con l Z consts_1 n0 [] (⟨"com/example/archive_packager/archivepackager/dc/DcElement$Attribute", "<init>", "(Lcom/example/archive_packager/archivepackager/xml/Namespace;Ljava/lang/String;Ljava/lang/String;Lcom/example/archive_packager/archivepackager/xml/Namespace;)V"⟩ : MethodName) prog_13_method_1_code 5 none ({ frames := 2, cells := 0, slots := 0, locals := 24 } : Room) #[.ref a, .ref nsp, .ref nm, .ref vl, .null] h (Ret0 fun h' => Keep h h' [a] ∧ Exa Z h' a "com/example/archive_packager/archivepackager/dc/DcElement$Attribute" ∧ Fld Z h' a "com/example/archive_packager/archivepackager/dc/DcElement$Attribute" "namespace" "Lcom/example/archive_packager/archivepackager/xml/Namespace;" (.ref nsp) ∧ Fld Z h' a "com/example/archive_packager/archivepackager/dc/DcElement$Attribute" "name" "Ljava/lang/String;" (.ref nm)) := by
  obtain ⟨hw, hEL, Sz, hz, YX, XX, GX, SX, YD, XD, GD, SDt, hdl⟩ := id wd
  refine Con.intro (plainFor_of_name (by first | (simp [plainName, overriddenIn]; done) | decide +kernel)) O hEL ?_
  intro p e s m below meth c T C hs P
  have C : Ctx Z a0 consts_1 p s m meth c "com/example/archive_packager/archivepackager/dc/DcElement$Attribute" "<init>" prog_13_method_1_code 5 none := C
  refine Run.cast (k_att_rn_ef m a nsp nm vl) ?_
  refine blk C P [.aload_n 0] (by decide +kernel) (pc' := 1) (L' := [.val (.ref a), .val (.ref nsp), .val (.ref nm), .val (.ref vl), .val (.null)]) (S' := [.ref a]) rfl ?_
  refine c_special C P (idx := 1) (y := (⟨"java/lang/Record", "<init>", "()V"⟩ : MethodName)) (ybytes := jdk_30_method_1_code) (ymax := 1) (yrm := ({ frames := 1, cells := 0, slots := 0, locals := 12 } : Room)) rfl (by decide +kernel) (hw _ (List.mem_of_getElem? (i := 36) rfl)) (hw _ (List.mem_of_getElem? (i := 37) rfl)) (hw _ (List.mem_of_getElem? (i := 39) rfl)) (hw _ (List.mem_of_getElem? (i := 40) rfl)) (by decide) [] [] (k_rec l wd a P.old ) (le_ _ _ rfl) (W := 0) (le_ _ _ rfl) (by decide +kernel : parseMethodDescriptor "()V" = some ⟨[], none⟩) rfl rfl rfl (le_ _ _ rfl) (le_ _ _ rfl) (le_ _ _ rfl) (pc' := 4) rfl (fun T1 h1 P1 Q1 => ?_)
  replace P1 := P1.more (k' := 0) (n' := 0) (le_ _ _ rfl) (le_ _ _ rfl)
  obtain rfl := Q1
  refine blk C P1 [.aload_n 0, .aload_n 1] (by decide +kernel) (pc' := 6) (L' := [.val (.ref a), .val (.ref nsp), .val (.ref nm), .val (.ref vl), .val (.null)]) (S' := [.ref nsp, .ref a]) rfl ?_
  refine s_putf C P1 (idx := 7) (by decide +kernel) (hw _ (List.mem_of_getElem? (i := 42) rfl)) B.1 (B.2.2 (Or.inr (hw _ (List.mem_of_getElem? (i := 43) rfl))) (ty := (.object "com/example/archive_packager/archivepackager/xml/Namespace")) (by decide)) B.2.1 (hw _ (List.mem_of_getElem? (i := 43) rfl)) rfl (hw _ (List.mem_of_getElem? (i := 31) rfl)) (by decide) (ty := (.object "com/example/archive_packager/archivepackager/xml/Namespace")) (by decide) rfl rfl (pc' := 9) rfl (fun T2 h2 P2 W2 => ?_)
  have G3 := B.2.1.wr W2
  have G4 := (B.2.2 (Or.inr (hw _ (List.mem_of_getElem? (i := 43) rfl))) (ty := (.object "com/example/archive_packager/archivepackager/xml/Namespace")) (by decide)).same W2
  have G5 := (B.2.2 (Or.inr (hw _ (List.mem_of_getElem? (i := 45) rfl))) (ty := (.object "java/lang/String")) (by decide)).other W2 (Or.inr (slot_ne (C := "com/example/archive_packager/archivepackager/dc/DcElement$Attribute") (Or.inr (hw _ (List.mem_of_getElem? (i := 45) rfl))) (Or.inr (hw _ (List.mem_of_getElem? (i := 43) rfl))) (by decide) (t := (.object "java/lang/String")) (by decide) (t' := (.object "com/example/archive_packager/archivepackager/xml/Namespace")) (by decide)))
  have G6 := (B.2.2 (Or.inr (hw _ (List.mem_of_getElem? (i := 47) rfl))) (ty := (.object "java/lang/String")) (by decide)).other W2 (Or.inr (slot_ne (C := "com/example/archive_packager/archivepackager/dc/DcElement$Attribute") (Or.inr (hw _ (List.mem_of_getElem? (i := 47) rfl))) (Or.inr (hw _ (List.mem_of_getElem? (i := 43) rfl))) (by decide) (t := (.object "java/lang/String")) (by decide) (t' := (.object "com/example/archive_packager/archivepackager/xml/Namespace")) (by decide)))
  have G7 := (B.2.2 (Or.inr (hw _ (List.mem_of_getElem? (i := 49) rfl))) (ty := (.object "com/example/archive_packager/archivepackager/xml/Namespace")) (by decide)).other W2 (Or.inr (slot_ne (C := "com/example/archive_packager/archivepackager/dc/DcElement$Attribute") (Or.inr (hw _ (List.mem_of_getElem? (i := 49) rfl))) (Or.inr (hw _ (List.mem_of_getElem? (i := 43) rfl))) (by decide) (t := (.object "com/example/archive_packager/archivepackager/xml/Namespace")) (by decide) (t' := (.object "com/example/archive_packager/archivepackager/xml/Namespace")) (by decide)))
  refine blk C P2 [.aload_n 0, .aload_n 2] (by decide +kernel) (pc' := 11) (L' := [.val (.ref a), .val (.ref nsp), .val (.ref nm), .val (.ref vl), .val (.null)]) (S' := [.ref nm, .ref a]) rfl ?_
  refine s_putf C P2 (idx := 13) (by decide +kernel) (hw _ (List.mem_of_getElem? (i := 44) rfl)) B.1 G5 G3 (hw _ (List.mem_of_getElem? (i := 45) rfl)) rfl (hw _ (List.mem_of_getElem? (i := 31) rfl)) (by decide) (ty := (.object "java/lang/String")) (by decide) rfl rfl (pc' := 14) rfl (fun T8 h8 P8 W8 => ?_)
  have G9 := G3.wr W8
  have G10 := G4.other W8 (Or.inr (slot_ne (C := "com/example/archive_packager/archivepackager/dc/DcElement$Attribute") (Or.inr (hw _ (List.mem_of_getElem? (i := 43) rfl))) (Or.inr (hw _ (List.mem_of_getElem? (i := 45) rfl))) (by decide) (t := (.object "com/example/archive_packager/archivepackager/xml/Namespace")) (by decide) (t' := (.object "java/lang/String")) (by decide)))
  have G11 := G5.same W8
  have G12 := G6.other W8 (Or.inr (slot_ne (C := "com/example/archive_packager/archivepackager/dc/DcElement$Attribute") (Or.inr (hw _ (List.mem_of_getElem? (i := 47) rfl))) (Or.inr (hw _ (List.mem_of_getElem? (i := 45) rfl))) (by decide) (t := (.object "java/lang/String")) (by decide) (t' := (.object "java/lang/String")) (by decide)))
  have G13 := G7.other W8 (Or.inr (slot_ne (C := "com/example/archive_packager/archivepackager/dc/DcElement$Attribute") (Or.inr (hw _ (List.mem_of_getElem? (i := 49) rfl))) (Or.inr (hw _ (List.mem_of_getElem? (i := 45) rfl))) (by decide) (t := (.object "com/example/archive_packager/archivepackager/xml/Namespace")) (by decide) (t' := (.object "java/lang/String")) (by decide)))
  refine blk C P8 [.aload_n 0, .aload_n 3] (by decide +kernel) (pc' := 16) (L' := [.val (.ref a), .val (.ref nsp), .val (.ref nm), .val (.ref vl), .val (.null)]) (S' := [.ref vl, .ref a]) rfl ?_
  refine s_putf C P8 (idx := 17) (by decide +kernel) (hw _ (List.mem_of_getElem? (i := 46) rfl)) B.1 G12 G9 (hw _ (List.mem_of_getElem? (i := 47) rfl)) rfl (hw _ (List.mem_of_getElem? (i := 31) rfl)) (by decide) (ty := (.object "java/lang/String")) (by decide) rfl rfl (pc' := 19) rfl (fun T14 h14 P14 W14 => ?_)
  have G15 := G9.wr W14
  have G16 := G10.other W14 (Or.inr (slot_ne (C := "com/example/archive_packager/archivepackager/dc/DcElement$Attribute") (Or.inr (hw _ (List.mem_of_getElem? (i := 43) rfl))) (Or.inr (hw _ (List.mem_of_getElem? (i := 47) rfl))) (by decide) (t := (.object "com/example/archive_packager/archivepackager/xml/Namespace")) (by decide) (t' := (.object "java/lang/String")) (by decide)))
  have G17 := G11.other W14 (Or.inr (slot_ne (C := "com/example/archive_packager/archivepackager/dc/DcElement$Attribute") (Or.inr (hw _ (List.mem_of_getElem? (i := 45) rfl))) (Or.inr (hw _ (List.mem_of_getElem? (i := 47) rfl))) (by decide) (t := (.object "java/lang/String")) (by decide) (t' := (.object "java/lang/String")) (by decide)))
  have G18 := G12.same W14
  have G19 := G13.other W14 (Or.inr (slot_ne (C := "com/example/archive_packager/archivepackager/dc/DcElement$Attribute") (Or.inr (hw _ (List.mem_of_getElem? (i := 49) rfl))) (Or.inr (hw _ (List.mem_of_getElem? (i := 47) rfl))) (by decide) (t := (.object "com/example/archive_packager/archivepackager/xml/Namespace")) (by decide) (t' := (.object "java/lang/String")) (by decide)))
  refine blk C P14 [.aload_n 0, .aload 4] (by decide +kernel) (pc' := 22) (L' := [.val (.ref a), .val (.ref nsp), .val (.ref nm), .val (.ref vl), .val (.null)]) (S' := [.null, .ref a]) rfl ?_
  refine s_putf C P14 (idx := 20) (by decide +kernel) (hw _ (List.mem_of_getElem? (i := 48) rfl)) B.1 G19 G15 (hw _ (List.mem_of_getElem? (i := 49) rfl)) rfl (hw _ (List.mem_of_getElem? (i := 31) rfl)) (by decide) (ty := (.object "com/example/archive_packager/archivepackager/xml/Namespace")) (by decide) rfl rfl (pc' := 25) rfl (fun T20 h20 P20 W20 => ?_)
  have G21 := G15.wr W20
  have G22 := G16.other W20 (Or.inr (slot_ne (C := "com/example/archive_packager/archivepackager/dc/DcElement$Attribute") (Or.inr (hw _ (List.mem_of_getElem? (i := 43) rfl))) (Or.inr (hw _ (List.mem_of_getElem? (i := 49) rfl))) (by decide) (t := (.object "com/example/archive_packager/archivepackager/xml/Namespace")) (by decide) (t' := (.object "com/example/archive_packager/archivepackager/xml/Namespace")) (by decide)))
  have G23 := G17.other W20 (Or.inr (slot_ne (C := "com/example/archive_packager/archivepackager/dc/DcElement$Attribute") (Or.inr (hw _ (List.mem_of_getElem? (i := 45) rfl))) (Or.inr (hw _ (List.mem_of_getElem? (i := 49) rfl))) (by decide) (t := (.object "java/lang/String")) (by decide) (t' := (.object "com/example/archive_packager/archivepackager/xml/Namespace")) (by decide)))
  have G24 := G18.other W20 (Or.inr (slot_ne (C := "com/example/archive_packager/archivepackager/dc/DcElement$Attribute") (Or.inr (hw _ (List.mem_of_getElem? (i := 47) rfl))) (Or.inr (hw _ (List.mem_of_getElem? (i := 49) rfl))) (by decide) (t := (.object "java/lang/String")) (by decide) (t' := (.object "com/example/archive_packager/archivepackager/xml/Namespace")) (by decide)))
  have G25 := G19.same W20
  exact r_void C P20 (by decide +kernel) (le_ _ _ rfl) (le_ _ _ rfl) ⟨rfl, (((((Keep.refl h [a]).wr W2 (Or.inl (List.mem_singleton.mpr rfl))).wr W8 (Or.inl (List.mem_singleton.mpr rfl))).wr W14 (Or.inl (List.mem_singleton.mpr rfl))).wr W20 (Or.inl (List.mem_singleton.mpr rfl))), G21, G22, G23⟩
theorem k_att_rr_ef (m : MethodId) (a nsp nm vl vns : Addr) : entryFrame m #[.ref a, .ref nsp, .ref nm, .ref vl, .ref vns] 5 = fr m 0 [.val (.ref a), .val (.ref nsp), .val (.ref nm), .val (.ref vl), .val (.ref vns)] [] := by first | (simp [entryFrame, mkF, argsToLocals, Value.category]; done) | rfl
set_option maxRecDepth 65536 in
set_option maxHeartbeats 4000000 in
theorem k_att_rr (l : Launch) {Z : State} {a0 : Array Value} {n0 : Nat} {h : Heap} {z : Int32} {kX uX kD uD : Addr} {dl : List Int32} (wd : Wd Z a0 z kX uX kD uD dl) (a nsp nm vl vns : Addr)  (O : Old Z n0 h) (B : Blk Z a0 n0 h a "com/example/archive_packager/archivepackager/dc/DcElement$Attribute") :
    Con l Z consts_1 n0 [] (⟨"com/example/archive_packager/archivepackager/dc/DcElement$Attribute", "<init>", "(Lcom/example/archive_packager/archivepackager/xml/Namespace;Ljava/lang/String;Ljava/lang/String;Lcom/example/archive_packager/archivepackager/xml/Namespace;)V"⟩ : MethodName) prog_13_method_1_code 5 none ({ frames := 2, cells := 0, slots := 0, locals := 24 } : Room) #[.ref a, .ref nsp, .ref nm, .ref vl, .ref vns] h (Ret0 fun h' => Keep h h' [a] ∧ Exa Z h' a "com/example/archive_packager/archivepackager/dc/DcElement$Attribute" ∧ Fld Z h' a "com/example/archive_packager/archivepackager/dc/DcElement$Attribute" "namespace" "Lcom/example/archive_packager/archivepackager/xml/Namespace;" (.ref nsp) ∧ Fld Z h' a "com/example/archive_packager/archivepackager/dc/DcElement$Attribute" "name" "Ljava/lang/String;" (.ref nm)) := by
  obtain ⟨hw, hEL, Sz, hz, YX, XX, GX, SX, YD, XD, GD, SDt, hdl⟩ := id wd
  refine Con.intro (plainFor_of_name (by first | (simp [plainName, overriddenIn]; done) | decide +kernel)) O hEL ?_
  intro p e s m below meth c T C hs P
  have C : Ctx Z a0 consts_1 p s m meth c "com/example/archive_packager/archivepackager/dc/DcElement$Attribute" "<init>" prog_13_method_1_code 5 none := C
  refine Run.cast (k_att_rr_ef m a nsp nm vl vns) ?_
  refine blk C P [.aload_n 0] (by decide +kernel) (pc' := 1) (L' := [.val (.ref a), .val (.ref nsp), .val (.ref nm), .val (.ref vl), .val (.ref vns)]) (S' := [.ref a]) rfl ?_
  refine c_special C P (idx := 1) (y := (⟨"java/lang/Record", "<init>", "()V"⟩ : MethodName)) (ybytes := jdk_30_method_1_code) (ymax := 1) (yrm := ({ frames := 1, cells := 0, slots := 0, locals := 12 } : Room)) rfl (by decide +kernel) (hw _ (List.mem_of_getElem? (i := 36) rfl)) (hw _ (List.mem_of_getElem? (i := 37) rfl)) (hw _ (List.mem_of_getElem? (i := 39) rfl)) (hw _ (List.mem_of_getElem? (i := 40) rfl)) (by decide) [] [] (k_rec l wd a P.old ) (le_ _ _ rfl) (W := 0) (le_ _ _ rfl) (by decide +kernel : parseMethodDescriptor "()V" = some ⟨[], none⟩) rfl rfl rfl (le_ _ _ rfl) (le_ _ _ rfl) (le_ _ _ rfl) (pc' := 4) rfl (fun T1 h1 P1 Q1 => ?_)
  replace P1 := P1.more (k' := 0) (n' := 0) (le_ _ _ rfl) (le_ _ _ rfl)
  obtain rfl := Q1
  refine blk C P1 [.aload_n 0, .aload_n 1] (by decide +kernel) (pc' := 6) (L' := [.val (.ref a), .val (.ref nsp), .val (.ref nm), .val (.ref vl), .val (.ref vns)]) (S' := [.ref nsp, .ref a]) rfl ?_
  refine s_putf C P1 (idx := 7) (by decide +kernel) (hw _ (List.mem_of_getElem? (i := 42) rfl)) B.1 (B.2.2 (Or.inr (hw _ (List.mem_of_getElem? (i := 43) rfl))) (ty := (.object "com/example/archive_packager/archivepackager/xml/Namespace")) (by decide)) B.2.1 (hw _ (List.mem_of_getElem? (i := 43) rfl)) rfl (hw _ (List.mem_of_getElem? (i := 31) rfl)) (by decide) (ty := (.object "com/example/archive_packager/archivepackager/xml/Namespace")) (by decide) rfl rfl (pc' := 9) rfl (fun T2 h2 P2 W2 => ?_)
  have G3 := B.2.1.wr W2
  have G4 := (B.2.2 (Or.inr (hw _ (List.mem_of_getElem? (i := 43) rfl))) (ty := (.object "com/example/archive_packager/archivepackager/xml/Namespace")) (by decide)).same W2
  have G5 := (B.2.2 (Or.inr (hw _ (List.mem_of_getElem? (i := 45) rfl))) (ty := (.object "java/lang/String")) (by decide)).other W2 (Or.inr (slot_ne (C := "com/example/archive_packager/archivepackager/dc/DcElement$Attribute") (Or.inr (hw _ (List.mem_of_getElem? (i := 45) rfl))) (Or.inr (hw _ (List.mem_of_getElem? (i := 43) rfl))) (by decide) (t := (.object "java/lang/String")) (by decide) (t' := (.object "com/example/archive_packager/archivepackager/xml/Namespace")) (by decide)))
  have G6 := (B.2.2 (Or.inr (hw _ (List.mem_of_getElem? (i := 47) rfl))) (ty := (.object "java/lang/String")) (by decide)).other W2 (Or.inr (slot_ne (C := "com/example/archive_packager/archivepackager/dc/DcElement$Attribute") (Or.inr (hw _ (List.mem_of_getElem? (i := 47) rfl))) (Or.inr (hw _ (List.mem_of_getElem? (i := 43) rfl))) (by decide) (t := (.object "java/lang/String")) (by decide) (t' := (.object "com/example/archive_packager/archivepackager/xml/Namespace")) (by decide)))
  have G7 := (B.2.2 (Or.inr (hw _ (List.mem_of_getElem? (i := 49) rfl))) (ty := (.object "com/example/archive_packager/archivepackager/xml/Namespace")) (by decide)).other W2 (Or.inr (slot_ne (C := "com/example/archive_packager/archivepackager/dc/DcElement$Attribute") (Or.inr (hw _ (List.mem_of_getElem? (i := 49) rfl))) (Or.inr (hw _ (List.mem_of_getElem? (i := 43) rfl))) (by decide) (t := (.object "com/example/archive_packager/archivepackager/xml/Namespace")) (by decide) (t' := (.object "com/example/archive_packager/archivepackager/xml/Namespace")) (by decide)))
  refine blk C P2 [.aload_n 0, .aload_n 2] (by decide +kernel) (pc' := 11) (L' := [.val (.ref a), .val (.ref nsp), .val (.ref nm), .val (.ref vl), .val (.ref vns)]) (S' := [.ref nm, .ref a]) rfl ?_
  refine s_putf C P2 (idx := 13) (by decide +kernel) (hw _ (List.mem_of_getElem? (i := 44) rfl)) B.1 G5 G3 (hw _ (List.mem_of_getElem? (i := 45) rfl)) rfl (hw _ (List.mem_of_getElem? (i := 31) rfl)) (by decide) (ty := (.object "java/lang/String")) (by decide) rfl rfl (pc' := 14) rfl (fun T8 h8 P8 W8 => ?_)
  have G9 := G3.wr W8
  have G10 := G4.other W8 (Or.inr (slot_ne (C := "com/example/archive_packager/archivepackager/dc/DcElement$Attribute") (Or.inr (hw _ (List.mem_of_getElem? (i := 43) rfl))) (Or.inr (hw _ (List.mem_of_getElem? (i := 45) rfl))) (by decide) (t := (.object "com/example/archive_packager/archivepackager/xml/Namespace")) (by decide) (t' := (.object "java/lang/String")) (by decide)))
  have G11 := G5.same W8
  have G12 := G6.other W8 (Or.inr (slot_ne (C := "com/example/archive_packager/archivepackager/dc/DcElement$Attribute") (Or.inr (hw _ (List.mem_of_getElem? (i := 47) rfl))) (Or.inr (hw _ (List.mem_of_getElem? (i := 45) rfl))) (by decide) (t := (.object "java/lang/String")) (by decide) (t' := (.object "java/lang/String")) (by decide)))
  have G13 := G7.other W8 (Or.inr (slot_ne (C := "com/example/archive_packager/archivepackager/dc/DcElement$Attribute") (Or.inr (hw _ (List.mem_of_getElem? (i := 49) rfl))) (Or.inr (hw _ (List.mem_of_getElem? (i := 45) rfl))) (by decide) (t := (.object "com/example/archive_packager/archivepackager/xml/Namespace")) (by decide) (t' := (.object "java/lang/String")) (by decide)))
  refine blk C P8 [.aload_n 0, .aload_n 3] (by decide +kernel) (pc' := 16) (L' := [.val (.ref a), .val (.ref nsp), .val (.ref nm), .val (.ref vl), .val (.ref vns)]) (S' := [.ref vl, .ref a]) rfl ?_
  refine s_putf C P8 (idx := 17) (by decide +kernel) (hw _ (List.mem_of_getElem? (i := 46) rfl)) B.1 G12 G9 (hw _ (List.mem_of_getElem? (i := 47) rfl)) rfl (hw _ (List.mem_of_getElem? (i := 31) rfl)) (by decide) (ty := (.object "java/lang/String")) (by decide) rfl rfl (pc' := 19) rfl (fun T14 h14 P14 W14 => ?_)
  have G15 := G9.wr W14
  have G16 := G10.other W14 (Or.inr (slot_ne (C := "com/example/archive_packager/archivepackager/dc/DcElement$Attribute") (Or.inr (hw _ (List.mem_of_getElem? (i := 43) rfl))) (Or.inr (hw _ (List.mem_of_getElem? (i := 47) rfl))) (by decide) (t := (.object "com/example/archive_packager/archivepackager/xml/Namespace")) (by decide) (t' := (.object "java/lang/String")) (by decide)))
  have G17 := G11.other W14 (Or.inr (slot_ne (C := "com/example/archive_packager/archivepackager/dc/DcElement$Attribute") (Or.inr (hw _ (List.mem_of_getElem? (i := 45) rfl))) (Or.inr (hw _ (List.mem_of_getElem? (i := 47) rfl))) (by decide) (t := (.object "java/lang/String")) (by decide) (t' := (.object "java/lang/String")) (by decide)))
  have G18 := G12.same W14
  have G19 := G13.other W14 (Or.inr (slot_ne (C := "com/example/archive_packager/archivepackager/dc/DcElement$Attribute") (Or.inr (hw _ (List.mem_of_getElem? (i := 49) rfl))) (Or.inr (hw _ (List.mem_of_getElem? (i := 47) rfl))) (by decide) (t := (.object "com/example/archive_packager/archivepackager/xml/Namespace")) (by decide) (t' := (.object "java/lang/String")) (by decide)))
  refine blk C P14 [.aload_n 0, .aload 4] (by decide +kernel) (pc' := 22) (L' := [.val (.ref a), .val (.ref nsp), .val (.ref nm), .val (.ref vl), .val (.ref vns)]) (S' := [.ref vns, .ref a]) rfl ?_
  refine s_putf C P14 (idx := 20) (by decide +kernel) (hw _ (List.mem_of_getElem? (i := 48) rfl)) B.1 G19 G15 (hw _ (List.mem_of_getElem? (i := 49) rfl)) rfl (hw _ (List.mem_of_getElem? (i := 31) rfl)) (by decide) (ty := (.object "com/example/archive_packager/archivepackager/xml/Namespace")) (by decide) rfl rfl (pc' := 25) rfl (fun T20 h20 P20 W20 => ?_)
  have G21 := G15.wr W20
  have G22 := G16.other W20 (Or.inr (slot_ne (C := "com/example/archive_packager/archivepackager/dc/DcElement$Attribute") (Or.inr (hw _ (List.mem_of_getElem? (i := 43) rfl))) (Or.inr (hw _ (List.mem_of_getElem? (i := 49) rfl))) (by decide) (t := (.object "com/example/archive_packager/archivepackager/xml/Namespace")) (by decide) (t' := (.object "com/example/archive_packager/archivepackager/xml/Namespace")) (by decide)))
  have G23 := G17.other W20 (Or.inr (slot_ne (C := "com/example/archive_packager/archivepackager/dc/DcElement$Attribute") (Or.inr (hw _ (List.mem_of_getElem? (i := 45) rfl))) (Or.inr (hw _ (List.mem_of_getElem? (i := 49) rfl))) (by decide) (t := (.object "java/lang/String")) (by decide) (t' := (.object "com/example/archive_packager/archivepackager/xml/Namespace")) (by decide)))
  have G24 := G18.other W20 (Or.inr (slot_ne (C := "com/example/archive_packager/archivepackager/dc/DcElement$Attribute") (Or.inr (hw _ (List.mem_of_getElem? (i := 47) rfl))) (Or.inr (hw _ (List.mem_of_getElem? (i := 49) rfl))) (by decide) (t := (.object "java/lang/String")) (by decide) (t' := (.object "com/example/archive_packager/archivepackager/xml/Namespace")) (by decide)))
  have G25 := G19.same W20
  exact r_void C P20 (by decide +kernel) (le_ _ _ rfl) (le_ _ _ rfl) ⟨rfl, (((((Keep.refl h [a]).wr W2 (Or.inl (List.mem_singleton.mpr rfl))).wr W8 (Or.inl (List.mem_singleton.mpr rfl))).wr W14 (Or.inl (List.mem_singleton.mpr rfl))).wr W20 (Or.inl (List.mem_singleton.mpr rfl))), G21, G22, G23⟩
theorem k_is_n_ef (m : MethodId) (a : Addr) : entryFrame m #[.ref a] 1 = fr m 0 [.val (.ref a)] [] := by first | (simp [entryFrame, mkF, argsToLocals, Value.category]; done) | rfl
set_option maxRecDepth 65536 in
set_option maxHeartbeats 4000000 in
theorem k_is_n (l : Launch) {Z : State} {a0 : Array Value} {n0 : Nat} {h : Heap} {z : Int32} {kX uX kD uD : Addr} {dl : List Int32} (wd : Wd Z a0 z kX uX kD uD dl) (a : Addr)  (O : Old Z n0 h) (G : Fld Z h a "com/example/archive_packager/archivepackager/dc/DcElement$Attribute" "namespace" "Lcom/example/archive_packager/archivepackager/xml/Namespace;" .null) :
    Con l Z consts_1 n0 [] (⟨"com/example/archive_packager/archivepackager/dc/DcElement$Attribute", "isType", "()Z"⟩ : MethodName) prog_13_method_2_code 1 (some .boolean) ({ frames := 0, cells := 0, slots := 0, locals := 0 } : Room) #[.ref a] h (Ret1 fun v h' => v = .int 0 ∧ h = h') := by
  obtain ⟨hw, hEL, Sz, hz, YX, XX, GX, SX, YD, XD, GD, SDt, hdl⟩ := id wd
  refine Con.intro (plainFor_of_name (by first | (simp [plainName, overriddenIn]; done) | decide +kernel)) O hEL ?_
  intro p e s m below meth c T C hs P
  have C : Ctx Z a0 consts_1 p s m meth c "com/example/archive_packager/archivepackager/dc/DcElement$Attribute" "isType" prog_13_method_2_code 1 (some .boolean) := C
  refine Run.cast (k_is_n_ef m a) ?_
  refine blk C P [.aload_n 0] (by decide +kernel) (pc' := 1) (L' := [.val (.ref a)]) (S' := [.ref a]) rfl ?_
  refine s_getf C P (idx := 7) (by decide +kernel) (hw _ (List.mem_of_getElem? (i := 42) rfl)) G (pc' := 4) rfl (fun T1 P1 => ?_)
  refine b_nullY C P1 (o := 38) (by decide +kernel) (pc' := 42) (by decide) ?_
  refine blk C P1 [.iconst 0] (by decide +kernel) (pc' := 43) (L' := [.val (.ref a)]) (S' := [.int (0 : Int32)]) rfl ?_
  exact r_int C P1 (ty := .boolean) (by simp) rfl (by decide +kernel) (le_ _ _ rfl) (le_ _ _ rfl) ⟨_, rfl, rfl, rfl⟩
theorem k_is_r_ef (m : MethodId) (a nsp ur nm : Addr) : entryFrame m #[.ref a] 1 = fr m 0 [.val (.ref a)] [] := by first | (simp [entryFrame, mkF, argsToLocals, Value.category]; done) | rfl
set_option maxRecDepth 65536 in
set_option maxHeartbeats 4000000 in
theorem k_is_r (l : Launch) {Z : State} {a0 : Array Value} {n0 : Nat} {h : Heap} {z : Int32} {kX uX kD uD : Addr} {dl : List Int32} (wd : Wd Z a0 z kX uX kD uD dl) (a nsp ur nm : Addr) {us nms : List Int32} (O : Old Z n0 h) (G1 : Fld Z h a "com/example/archive_packager/archivepackager/dc/DcElement$Attribute" "namespace" "Lcom/example/archive_packager/archivepackager/xml/Namespace;" (.ref nsp)) (G2 : Fld Z h a "com/example/archive_packager/archivepackager/dc/DcElement$Attribute" "name" "Ljava/lang/String;" (.ref nm)) (A : Exa Z h nsp "com/example/archive_packager/archivepackager/xml/Namespace") (G3 : Fld Z h nsp "com/example/archive_packager/archivepackager/xml/Namespace" "uri" "Ljava/lang/String;" (.ref ur)) (S1 : Str Z h ur us) (S2 : Str Z h nm nms) :
    Con l Z consts_1 n0 [] (⟨"com/example/archive_packager/archivepackager/dc/DcElement$Attribute", "isType", "()Z"⟩ : MethodName) prog_13_method_2_code 1 (some .boolean) ({ frames := 2, cells := 2, slots := 20, locals := 28 } : Room) #[.ref a] h (Ret1 fun v h' => ((v = .int 1 ∧ (us = (txt 84) ∧ nms = (txt 88))) ∨ (v = .int 0 ∧ ¬ (us = (txt 84) ∧ nms = (txt 88)))) ∧ Ext h h') := by
  obtain ⟨hw, hEL, Sz, hz, YX, XX, GX, SX, YD, XD, GD, SDt, hdl⟩ := id wd
  have wS : ∀ a ∈ Bundle.stringAtoms, a.before a0 Z = true := fun d hd => hw d ((by decide +kernel : ∀ d ∈ Bundle.stringAtoms, d ∈ tables_1) d hd)
  refine Con.intro (plainFor_of_name (by first | (simp [plainName, overriddenIn]; done) | decide +kernel)) O hEL ?_
  intro p e s m below meth c T C hs P
  have C : Ctx Z a0 consts_1 p s m meth c "com/example/archive_packager/archivepackager/dc/DcElement$Attribute" "isType" prog_13_method_2_code 1 (some .boolean) := C
  refine Run.cast (k_is_r_ef m a nsp ur nm) ?_
  refine blk C P [.aload_n 0] (by decide +kernel) (pc' := 1) (L' := [.val (.ref a)]) (S' := [.ref a]) rfl ?_
  refine s_getf C P (idx := 7) (by decide +kernel) (hw _ (List.mem_of_getElem? (i := 42) rfl)) G1 (pc' := 4) rfl (fun T1 P1 => ?_)
  refine b_nullN C P1 (o := 38) (by decide +kernel) (pc' := 7) rfl ?_
  refine blk C P1 [.aload_n 0] (by decide +kernel) (pc' := 8) (L' := [.val (.ref a)]) (S' := [.ref a]) rfl ?_
  refine s_getf C P1 (idx := 7) (by decide +kernel) (hw _ (List.mem_of_getElem? (i := 42) rfl)) G1 (pc' := 11) rfl (fun T2 P2 => ?_)
  refine c_virtual C P2 (idx := 23) (y := (⟨"com/example/archive_packager/archivepackager/xml/Namespace", "uri", "()Ljava/lang/String;"⟩ : MethodName)) (K0 := "com/example/archive_packager/archivepackager/xml/Namespace") (ybytes := prog_104_method_6_code) (ymax := 1) (yret := (some (.object "java/lang/String"))) (yrm := ({ frames := 0, cells := 0, slots := 0, locals := 0 } : Room)) (by decide +kernel) (hw _ (List.mem_of_getElem? (i := 68) rfl)) (hw _ (List.mem_of_getElem? (i := 69) rfl)) (hw _ (List.mem_of_getElem? (i := 71) rfl)) (hw _ (List.mem_of_getElem? (i := 70) rfl)) (hw _ (List.mem_of_getElem? (i := 59) rfl)) (hw _ (List.mem_of_getElem? (i := 72) rfl)) (by decide) A [] [] (k_uri l wd nsp ur P2.old G3) (le_ _ _ rfl) (W := 0) (le_ _ _ rfl) (by decide +kernel : parseMethodDescriptor "()Ljava/lang/String;" = some ⟨[], some (.object "java/lang/String")⟩) rfl rfl rfl (le_ _ _ rfl) (le_ _ _ rfl) (le_ _ _ rfl) (pc' := 14) rfl (fun T3 h3 v3 P3 Q3 => ?_)
  replace P3 := P3.more (k' := 0) (n' := 0) (le_ _ _ rfl) (le_ _ _ rfl)
  obtain ⟨rfl, rfl⟩ := Q3
  refine s_gets C P3 (idx := 29) (by decide +kernel) (hw _ (List.mem_of_getElem? (i := 73) rfl)) YX (pc' := 17) rfl (fun T4 P4 => ?_)
  refine c_virtual C P4 (idx := 23) (y := (⟨"com/example/archive_packager/archivepackager/xml/Namespace", "uri", "()Ljava/lang/String;"⟩ : MethodName)) (K0 := "com/example/archive_packager/archivepackager/xml/Namespace") (ybytes := prog_104_method_6_code) (ymax := 1) (yret := (some (.object "java/lang/String"))) (yrm := ({ frames := 0, cells := 0, slots := 0, locals := 0 } : Room)) (by decide +kernel) (hw _ (List.mem_of_getElem? (i := 68) rfl)) (hw _ (List.mem_of_getElem? (i := 69) rfl)) (hw _ (List.mem_of_getElem? (i := 71) rfl)) (hw _ (List.mem_of_getElem? (i := 70) rfl)) (hw _ (List.mem_of_getElem? (i := 59) rfl)) (hw _ (List.mem_of_getElem? (i := 72) rfl)) (by decide) (XX.ext P4.z) [] [.ref ur] (k_uri l wd kX uX P4.old (GX.ext P4.z)) (le_ _ _ rfl) (W := 1) (le_ _ _ rfl) (by decide +kernel : parseMethodDescriptor "()Ljava/lang/String;" = some ⟨[], some (.object "java/lang/String")⟩) rfl rfl rfl (le_ _ _ rfl) (le_ _ _ rfl) (le_ _ _ rfl) (pc' := 20) rfl (fun T5 h5 v5 P5 Q5 => ?_)
  replace P5 := P5.more (k' := 0) (n' := 0) (le_ _ _ rfl) (le_ _ _ rfl)
  obtain ⟨rfl, rfl⟩ := Q5
  refine c_eqStr C P5 hw Sz hz (idx := 32) (rest := []) (W := 0) (by decide +kernel) (hw _ (List.mem_of_getElem? (i := 75) rfl)) S1 (SX.ext P5.z) rfl (le_ _ _ rfl) (le_ _ _ rfl) (le_ _ _ rfl) (le_ _ _ rfl) (le_ _ _ rfl) (pc' := 23) rfl (fun T6 r6 P6 Q6 => ?_)
  rcases Q6 with ⟨rfl, Q6⟩ | ⟨rfl, Q6⟩
  · skip
    refine b_ifN C P6 (cd := .eq) (o := 19) (by decide +kernel) (pc' := 26) rfl (by decide : ¬ (1 : Int32) = 0) ?_
    refine blk C P6 [.aload_n 0] (by decide +kernel) (pc' := 27) (L' := [.val (.ref a)]) (S' := [.ref a]) rfl ?_
    refine s_getf C P6 (idx := 13) (by decide +kernel) (hw _ (List.mem_of_getElem? (i := 44) rfl)) G2 (pc' := 30) rfl (fun T7 P7 => ?_)
    refine s_ldc C P7 (idx := 38) (txt 88) (by decide +kernel) (hw _ (List.mem_of_getElem? (i := 88) rfl)) wS (by decide +kernel) (by decide +kernel) (by decide +kernel) (by decide +kernel) (len := 16) (by decide) (by decide) (le_ _ _ rfl) (le_ _ _ rfl) (pc' := 32) rfl (fun T8 h8 a8 P8 E8 S8 => ?_)
    replace P8 := P8.more (k' := 2) (n' := 20) (le_ _ _ rfl) (le_ _ _ rfl)
    refine c_eqStr C P8 hw Sz hz (idx := 32) (rest := []) (W := 0) (by decide +kernel) (hw _ (List.mem_of_getElem? (i := 75) rfl)) (S2.ext E8) S8 rfl (le_ _ _ rfl) (le_ _ _ rfl) (le_ _ _ rfl) (le_ _ _ rfl) (le_ _ _ rfl) (pc' := 35) rfl (fun T9 r9 P9 Q9 => ?_)
    rcases Q9 with ⟨rfl, Q9⟩ | ⟨rfl, Q9⟩
    · skip
      refine b_ifN C P9 (cd := .eq) (o := 7) (by decide +kernel) (pc' := 38) rfl (by decide : ¬ (1 : Int32) = 0) ?_
      refine blk C P9 [.iconst 1] (by decide +kernel) (pc' := 39) (L' := [.val (.ref a)]) (S' := [.int (1 : Int32)]) rfl ?_
      refine b_goto C P9 (o := 4) (by decide +kernel) (pc' := 43) (by decide) ?_
      exact r_int C P9 (ty := .boolean) (by simp) rfl (by decide +kernel) (le_ _ _ rfl) (le_ _ _ rfl) ⟨_, rfl, Or.inl ⟨rfl, Q6, Q9⟩, E8⟩
    · skip
      refine b_ifY C P9 (cd := .eq) (o := 7) (by decide +kernel) (pc' := 42) (by decide) (by decide : (0 : Int32) = 0) ?_
      refine blk C P9 [.iconst 0] (by decide +kernel) (pc' := 43) (L' := [.val (.ref a)]) (S' := [.int (0 : Int32)]) rfl ?_
      exact r_int C P9 (ty := .boolean) (by simp) rfl (by decide +kernel) (le_ _ _ rfl) (le_ _ _ rfl) ⟨_, rfl, Or.inr ⟨rfl, fun z => Q9 z.2⟩, E8⟩
  · skip
    refine b_ifY C P6 (cd := .eq) (o := 19) (by decide +kernel) (pc' := 42) (by decide) (by decide : (0 : Int32) = 0) ?_
    refine blk C P6 [.iconst 0] (by decide +kernel) (pc' := 43) (L' := [.val (.ref a)]) (S' := [.int (0 : Int32)]) rfl ?_
    exact r_int C P6 (ty := .boolean) (by simp) rfl (by decide +kernel) (le_ _ _ rfl) (le_ _ _ rfl) ⟨_, rfl, Or.inr ⟨rfl, fun z => Q6 z.1⟩, (exR h)⟩
set_option maxRecDepth 65536 in
set_option maxHeartbeats 4000000 in
theorem t446_n1u (l : Launch) {Z : State} {a0 : Array Value} {n0 : Nat} {h : Heap} {z : Int32} {kX uX kD uD : Addr} {dl : List Int32} (wd : Wd Z a0 z kX uX kD uD dl) (x0 x1 x2 x3 : Int32) (pf ur : Addr) (nm vl : Addr)  {p : Program} {e : Env} {s : State} {m : MethodId} {args : Array Value} {below : List Frame} {meth : Method} {c : Code} {T : State} (C : Ctx Z a0 consts_1 p s m meth c "com/example/archive_packager/archivepackager/dc/AttributeIsTypePinLaw" "law" code 16 (some .boolean)) (P : Pos Z consts_1 n0 p l e room_1 s m args below meth c T h 13 234) (hu0 : (x0 &&& (7 : Int32)) = 0) (Sn : Str Z h nm (txt 88)) :
    Jvm.Own.Run p.tables e below (Jvm.Own.Ends Z consts_1 n0 room_1 below (Ret1 fun v h' => v = .int 1) s) T (fr m 446 [.val (.int x0), .val (.int x1), .val (.int x2), .val (.int x3), .val (.int (x0 &&& (7 : Int32))), .val (.ref pf), .val (.ref ur), .val (.null), .val (.int (0 : Int32)), .val (.ref nm), .val (.int (1 : Int32)), .val (.int (x1 &&& (3 : Int32))), .val (.ref vl), .unset, .unset, .unset] []) := by
  obtain ⟨hw, hEL, Sz, hz, YX, XX, GX, SX, YD, XD, GD, SDt, hdl⟩ := id wd
  refine blk C P [.iload_n 0, .iconst 4, .ishr, .iconst 1, .iand] (by decide +kernel) (pc' := 451) (L' := [.val (.int x0), .val (.int x1), .val (.int x2), .val (.int x3), .val (.int (x0 &&& (7 : Int32))), .val (.ref pf), .val (.ref ur), .val (.null), .val (.int (0 : Int32)), .val (.ref nm), .val (.int (1 : Int32)), .val (.int (x1 &&& (3 : Int32))), .val (.ref vl), .unset, .unset, .unset]) (S' := [.int ((x0 >>> ((4 : Int32) &&& 31)) &&& (1 : Int32))]) rfl ?_
  refine b_if C P (cd := .eq) (o := 9) (by decide +kernel) (pc' := 460) (by decide) (pn := 454) rfl (fun (q1 : ((x0 >>> ((4 : Int32) &&& 31)) &&& (1 : Int32)) = 0) => ?_) (fun (q1 : ¬ ((x0 >>> ((4 : Int32) &&& 31)) &&& (1 : Int32)) = 0) => ?_)
  · skip
    refine blk C P [.aconst_null, .astore 13] (by decide +kernel) (pc' := 463) (L' := [.val (.int x0), .val (.int x1), .val (.int x2), .val (.int x3), .val (.int (x0 &&& (7 : Int32))), .val (.ref pf), .val (.ref ur), .val (.null), .val (.int (0 : Int32)), .val (.ref nm), .val (.int (1 : Int32)), .val (.int (x1 &&& (3 : Int32))), .val (.ref vl), .val (.null), .unset, .unset]) (S' := []) rfl ?_
    refine s_new C P (idx := 50) (by decide +kernel) (hw _ (List.mem_of_getElem? (i := 30) rfl)) (hw _ (List.mem_of_getElem? (i := 31) rfl)) (hw _ (List.mem_of_getElem? (i := 32) rfl)) (le_ _ _ rfl) (le_ _ _ rfl) (pc' := 466) rfl (fun T2 h2 P2 E2 B2 => ?_)
    replace P2 := P2.more (k' := 14) (n' := 238) (le_ _ _ rfl) (le_ _ _ rfl)
    refine blk C P2 [.dup, .aload 7, .aload 9, .aload 12, .aload 13] (by decide +kernel) (pc' := 475) (L' := [.val (.int x0), .val (.int x1), .val (.int x2), .val (.int x3), .val (.int (x0 &&& (7 : Int32))), .val (.ref pf), .val (.ref ur), .val (.null), .val (.int (0 : Int32)), .val (.ref nm), .val (.int (1 : Int32)), .val (.int (x1 &&& (3 : Int32))), .val (.ref vl), .val (.null), .unset, .unset]) (S' := [.null, .ref vl, .ref nm, .null, .ref h.size, .ref h.size]) rfl ?_
    refine c_special C P2 (idx := 52) (y := (⟨"com/example/archive_packager/archivepackager/dc/DcElement$Attribute", "<init>", "(Lcom/example/archive_packager/archivepackager/xml/Namespace;Ljava/lang/String;Ljava/lang/String;Lcom/example/archive_packager/archivepackager/xml/Namespace;)V"⟩ : MethodName)) (ybytes := prog_13_method_1_code) (ymax := 5) (yrm := ({ frames := 2, cells := 0, slots := 0, locals := 24 } : Room)) rfl (by decide +kernel) (hw _ (List.mem_of_getElem? (i := 33) rfl)) (hw _ (List.mem_of_getElem? (i := 34) rfl)) (hw _ (List.mem_of_getElem? (i := 32) rfl)) (hw _ (List.mem_of_getElem? (i := 35) rfl)) (by decide) [.null, .ref nm, .ref vl, .null] [.ref h.size] (k_att_nn l wd (h.size) nm vl P2.old B2) (le_ _ _ rfl) (W := 1) (le_ _ _ rfl) (by decide +kernel : parseMethodDescriptor "(Lcom/example/archive_packager/archivepackager/xml/Namespace;Ljava/lang/String;Ljava/lang/String;Lcom/example/archive_packager/archivepackager/xml/Namespace;)V" = some ⟨[(.object "com/example/archive_packager/archivepackager/xml/Namespace"), (.object "java/lang/String"), (.object "java/lang/String"), (.object "com/example/archive_packager/archivepackager/xml/Namespace")], none⟩) rfl rfl rfl (le_ _ _ rfl) (le_ _ _ rfl) (le_ _ _ rfl) (pc' := 478) rfl (fun T3 h3 P3 Q3 => ?_)
    replace P3 := P3.more (k' := 14) (n' := 238) (le_ _ _ rfl) (le_ _ _ rfl)
    obtain ⟨K3, A3, F3_0, F3_1⟩ := Q3
    refine blk C P3 [.astore 14, .iload 4] (by decide +kernel) (pc' := 482) (L' := [.val (.int x0), .val (.int x1), .val (.int x2), .val (.int x3), .val (.int (x0 &&& (7 : Int32))), .val (.ref pf), .val (.ref ur), .val (.null), .val (.int (0 : Int32)), .val (.ref nm), .val (.int (1 : Int32)), .val (.int (x1 &&& (3 : Int32))), .val (.ref vl), .val (.null), .val (.ref h.size), .unset]) (S' := [.int (x0 &&& (7 : Int32))]) rfl ?_
    refine b_ifY C P3 (cd := .eq) (o := 17) (by decide +kernel) (pc' := 499) (by decide) hu0 ?_
    refine blk C P3 [.iconst 0, .istore 15, .aload 14] (by decide +kernel) (pc' := 504) (L' := [.val (.int x0), .val (.int x1), .val (.int x2), .val (.int x3), .val (.int (x0 &&& (7 : Int32))), .val (.ref pf), .val (.ref ur), .val (.null), .val (.int (0 : Int32)), .val (.ref nm), .val (.int (1 : Int32)), .val (.int (x1 &&& (3 : Int32))), .val (.ref vl), .val (.null), .val (.ref h.size), .val (.int (0 : Int32))]) (S' := [.ref h.size]) rfl ?_
    refine c_virtual C P3 (idx := 55) (y := (⟨"com/example/archive_packager/archivepackager/dc/DcElement$Attribute", "isType", "()Z"⟩ : MethodName)) (K0 := "com/example/archive_packager/archivepackager/dc/DcElement$Attribute") (ybytes := prog_13_method_2_code) (ymax := 1) (yret := (some .boolean)) (yrm := ({ frames := 0, cells := 0, slots := 0, locals := 0 } : Room)) (by decide +kernel) (hw _ (List.mem_of_getElem? (i := 50) rfl)) (hw _ (List.mem_of_getElem? (i := 51) rfl)) (hw _ (List.mem_of_getElem? (i := 53) rfl)) (hw _ (List.mem_of_getElem? (i := 52) rfl)) (hw _ (List.mem_of_getElem? (i := 32) rfl)) (hw _ (List.mem_of_getElem? (i := 54) rfl)) (by decide) A3 [] [] (k_is_n l wd (h.size) P3.old F3_0) (le_ _ _ rfl) (W := 0) (le_ _ _ rfl) (by decide +kernel : parseMethodDescriptor "()Z" = some ⟨[], some .boolean⟩) rfl rfl rfl (le_ _ _ rfl) (le_ _ _ rfl) (le_ _ _ rfl) (pc' := 507) rfl (fun T4 h4 v4 P4 Q4 => ?_)
    replace P4 := P4.more (k' := 14) (n' := 238) (le_ _ _ rfl) (le_ _ _ rfl)
    obtain ⟨rfl, rfl⟩ := Q4
    refine blk C P4 [.iload 15] (by decide +kernel) (pc' := 509) (L' := [.val (.int x0), .val (.int x1), .val (.int x2), .val (.int x3), .val (.int (x0 &&& (7 : Int32))), .val (.ref pf), .val (.ref ur), .val (.null), .val (.int (0 : Int32)), .val (.ref nm), .val (.int (1 : Int32)), .val (.int (x1 &&& (3 : Int32))), .val (.ref vl), .val (.null), .val (.ref h.size), .val (.int (0 : Int32))]) (S' := [.int (0 : Int32), .int (0 : Int32)]) rfl ?_
    refine b_cmN C P4 (cd := .ne) (o := 7) (by decide +kernel) (pc' := 512) rfl (by decide : (0 : Int32) = (0 : Int32)) ?_
    refine blk C P4 [.iconst 1] (by decide +kernel) (pc' := 513) (L' := [.val (.int x0), .val (.int x1), .val (.int x2), .val (.int x3), .val (.int (x0 &&& (7 : Int32))), .val (.ref pf), .val (.ref ur), .val (.null), .val (.int (0 : Int32)), .val (.ref nm), .val (.int (1 : Int32)), .val (.int (x1 &&& (3 : Int32))), .val (.ref vl), .val (.null), .val (.ref h.size), .val (.int (0 : Int32))]) (S' := [.int (1 : Int32)]) rfl ?_
    refine b_goto C P4 (o := 4) (by decide +kernel) (pc' := 517) (by decide) ?_
    exact r_int C P4 (ty := .boolean) (by simp) rfl (by decide +kernel) (le_ _ _ rfl) (le_ _ _ rfl) ⟨_, rfl, rfl⟩
  · skip
    refine s_gets C P (idx := 15) (by decide +kernel) (hw _ (List.mem_of_getElem? (i := 87) rfl)) YX (pc' := 457) rfl (fun T5 P5 => ?_)
    refine b_goto C P5 (o := 4) (by decide +kernel) (pc' := 461) (by decide) ?_
    refine blk C P5 [.astore 13] (by decide +kernel) (pc' := 463) (L' := [.val (.int x0), .val (.int x1), .val (.int x2), .val (.int x3), .val (.int (x0 &&& (7 : Int32))), .val (.ref pf), .val (.ref ur), .val (.null), .val (.int (0 : Int32)), .val (.ref nm), .val (.int (1 : Int32)), .val (.int (x1 &&& (3 : Int32))), .val (.ref vl), .val (.ref kX), .unset, .unset]) (S' := []) rfl ?_
    refine s_new C P5 (idx := 50) (by decide +kernel) (hw _ (List.mem_of_getElem? (i := 30) rfl)) (hw _ (List.mem_of_getElem? (i := 31) rfl)) (hw _ (List.mem_of_getElem? (i := 32) rfl)) (le_ _ _ rfl) (le_ _ _ rfl) (pc' := 466) rfl (fun T6 h6 P6 E6 B6 => ?_)
    replace P6 := P6.more (k' := 14) (n' := 238) (le_ _ _ rfl) (le_ _ _ rfl)
    refine blk C P6 [.dup, .aload 7, .aload 9, .aload 12, .aload 13] (by decide +kernel) (pc' := 475) (L' := [.val (.int x0), .val (.int x1), .val (.int x2), .val (.int x3), .val (.int (x0 &&& (7 : Int32))), .val (.ref pf), .val (.ref ur), .val (.null), .val (.int (0 : Int32)), .val (.ref nm), .val (.int (1 : Int32)), .val (.int (x1 &&& (3 : Int32))), .val (.ref vl), .val (.ref kX), .unset, .unset]) (S' := [.ref kX, .ref vl, .ref nm, .null, .ref h.size, .ref h.size]) rfl ?_
    refine c_special C P6 (idx := 52) (y := (⟨"com/example/archive_packager/archivepackager/dc/DcElement$Attribute", "<init>", "(Lcom/example/archive_packager/archivepackager/xml/Namespace;Ljava/lang/String;Ljava/lang/String;Lcom/example/archive_packager/archivepackager/xml/Namespace;)V"⟩ : MethodName)) (ybytes := prog_13_method_1_code) (ymax := 5) (yrm := ({ frames := 2, cells := 0, slots := 0, locals := 24 } : Room)) rfl (by decide +kernel) (hw _ (List.mem_of_getElem? (i := 33) rfl)) (hw _ (List.mem_of_getElem? (i := 34) rfl)) (hw _ (List.mem_of_getElem? (i := 32) rfl)) (hw _ (List.mem_of_getElem? (i := 35) rfl)) (by decide) [.null, .ref nm, .ref vl, .ref kX] [.ref h.size] (k_att_nr l wd (h.size) nm vl kX P6.old B6) (le_ _ _ rfl) (W := 1) (le_ _ _ rfl) (by decide +kernel : parseMethodDescriptor "(Lcom/example/archive_packager/archivepackager/xml/Namespace;Ljava/lang/String;Ljava/lang/String;Lcom/example/archive_packager/archivepackager/xml/Namespace;)V" = some ⟨[(.object "com/example/archive_packager/archivepackager/xml/Namespace"), (.object "java/lang/String"), (.object "java/lang/String"), (.object "com/example/archive_packager/archivepackager/xml/Namespace")], none⟩) rfl rfl rfl (le_ _ _ rfl) (le_ _ _ rfl) (le_ _ _ rfl) (pc' := 478) rfl (fun T7 h7 P7 Q7 => ?_)
    replace P7 := P7.more (k' := 14) (n' := 238) (le_ _ _ rfl) (le_ _ _ rfl)
    obtain ⟨K7, A7, F7_0, F7_1⟩ := Q7
    refine blk C P7 [.astore 14, .iload 4] (by decide +kernel) (pc' := 482) (L' := [.val (.int x0), .val (.int x1), .val (.int x2), .val (.int x3), .val (.int (x0 &&& (7 : Int32))), .val (.ref pf), .val (.ref ur), .val (.null), .val (.int (0 : Int32)), .val (.ref nm), .val (.int (1 : Int32)), .val (.int (x1 &&& (3 : Int32))), .val (.ref vl), .val (.ref kX), .val (.ref h.size), .unset]) (S' := [.int (x0 &&& (7 : Int32))]) rfl ?_
    refine b_ifY C P7 (cd := .eq) (o := 17) (by decide +kernel) (pc' := 499) (by decide) hu0 ?_
    refine blk C P7 [.iconst 0, .istore 15, .aload 14] (by decide +kernel) (pc' := 504) (L' := [.val (.int x0), .val (.int x1), .val (.int x2), .val (.int x3), .val (.int (x0 &&& (7 : Int32))), .val (.ref pf), .val (.ref ur), .val (.null), .val (.int (0 : Int32)), .val (.ref nm), .val (.int (1 : Int32)), .val (.int (x1 &&& (3 : Int32))), .val (.ref vl), .val (.ref kX), .val (.ref h.size), .val (.int (0 : Int32))]) (S' := [.ref h.size]) rfl ?_
    refine c_virtual C P7 (idx := 55) (y := (⟨"com/example/archive_packager/archivepackager/dc/DcElement$Attribute", "isType", "()Z"⟩ : MethodName)) (K0 := "com/example/archive_packager/archivepackager/dc/DcElement$Attribute") (ybytes := prog_13_method_2_code) (ymax := 1) (yret := (some .boolean)) (yrm := ({ frames := 0, cells := 0, slots := 0, locals := 0 } : Room)) (by decide +kernel) (hw _ (List.mem_of_getElem? (i := 50) rfl)) (hw _ (List.mem_of_getElem? (i := 51) rfl)) (hw _ (List.mem_of_getElem? (i := 53) rfl)) (hw _ (List.mem_of_getElem? (i := 52) rfl)) (hw _ (List.mem_of_getElem? (i := 32) rfl)) (hw _ (List.mem_of_getElem? (i := 54) rfl)) (by decide) A7 [] [] (k_is_n l wd (h.size) P7.old F7_0) (le_ _ _ rfl) (W := 0) (le_ _ _ rfl) (by decide +kernel : parseMethodDescriptor "()Z" = some ⟨[], some .boolean⟩) rfl rfl rfl (le_ _ _ rfl) (le_ _ _ rfl) (le_ _ _ rfl) (pc' := 507) rfl (fun T8 h8 v8 P8 Q8 => ?_)
    replace P8 := P8.more (k' := 14) (n' := 238) (le_ _ _ rfl) (le_ _ _ rfl)
    obtain ⟨rfl, rfl⟩ := Q8
    refine blk C P8 [.iload 15] (by decide +kernel) (pc' := 509) (L' := [.val (.int x0), .val (.int x1), .val (.int x2), .val (.int x3), .val (.int (x0 &&& (7 : Int32))), .val (.ref pf), .val (.ref ur), .val (.null), .val (.int (0 : Int32)), .val (.ref nm), .val (.int (1 : Int32)), .val (.int (x1 &&& (3 : Int32))), .val (.ref vl), .val (.ref kX), .val (.ref h.size), .val (.int (0 : Int32))]) (S' := [.int (0 : Int32), .int (0 : Int32)]) rfl ?_
    refine b_cmN C P8 (cd := .ne) (o := 7) (by decide +kernel) (pc' := 512) rfl (by decide : (0 : Int32) = (0 : Int32)) ?_
    refine blk C P8 [.iconst 1] (by decide +kernel) (pc' := 513) (L' := [.val (.int x0), .val (.int x1), .val (.int x2), .val (.int x3), .val (.int (x0 &&& (7 : Int32))), .val (.ref pf), .val (.ref ur), .val (.null), .val (.int (0 : Int32)), .val (.ref nm), .val (.int (1 : Int32)), .val (.int (x1 &&& (3 : Int32))), .val (.ref vl), .val (.ref kX), .val (.ref h.size), .val (.int (0 : Int32))]) (S' := [.int (1 : Int32)]) rfl ?_
    refine b_goto C P8 (o := 4) (by decide +kernel) (pc' := 517) (by decide) ?_
    exact r_int C P8 (ty := .boolean) (by simp) rfl (by decide +kernel) (le_ _ _ rfl) (le_ _ _ rfl) ⟨_, rfl, rfl⟩
set_option maxRecDepth 65536 in
set_option maxHeartbeats 4000000 in
theorem t419_n1u (l : Launch) {Z : State} {a0 : Array Value} {n0 : Nat} {h : Heap} {z : Int32} {kX uX kD uD : Addr} {dl : List Int32} (wd : Wd Z a0 z kX uX kD uD dl) (x0 x1 x2 x3 : Int32) (pf ur : Addr) (nm : Addr)  {p : Program} {e : Env} {s : State} {m : MethodId} {args : Array Value} {below : List Frame} {meth : Method} {c : Code} {T : State} (C : Ctx Z a0 consts_1 p s m meth c "com/example/archive_packager/archivepackager/dc/AttributeIsTypePinLaw" "law" code 16 (some .boolean)) (P : Pos Z consts_1 n0 p l e room_1 s m args below meth c T h 11 214) (hu0 : (x0 &&& (7 : Int32)) = 0) (Sn : Str Z h nm (txt 88)) :
    Jvm.Own.Run p.tables e below (Jvm.Own.Ends Z consts_1 n0 room_1 below (Ret1 fun v h' => v = .int 1) s) T (fr m 419 [.val (.int x0), .val (.int x1), .val (.int x2), .val (.int x3), .val (.int (x0 &&& (7 : Int32))), .val (.ref pf), .val (.ref ur), .val (.null), .val (.int (0 : Int32)), .val (.ref nm), .val (.int (1 : Int32)), .val (.int (x1 &&& (3 : Int32))), .unset, .unset, .unset, .unset] []) := by
  obtain ⟨hw, hEL, Sz, hz, YX, XX, GX, SX, YD, XD, GD, SDt, hdl⟩ := id wd
  have wS : ∀ a ∈ Bundle.stringAtoms, a.before a0 Z = true := fun d hd => hw d ((by decide +kernel : ∀ d ∈ Bundle.stringAtoms, d ∈ tables_1) d hd)
  refine blk C P [.iload_n 0, .iconst 5, .ishr, .iconst 1, .iand] (by decide +kernel) (pc' := 424) (L' := [.val (.int x0), .val (.int x1), .val (.int x2), .val (.int x3), .val (.int (x0 &&& (7 : Int32))), .val (.ref pf), .val (.ref ur), .val (.null), .val (.int (0 : Int32)), .val (.ref nm), .val (.int (1 : Int32)), .val (.int (x1 &&& (3 : Int32))), .unset, .unset, .unset, .unset]) (S' := [.int ((x0 >>> ((5 : Int32) &&& 31)) &&& (1 : Int32))]) rfl ?_
  refine b_if C P (cd := .eq) (o := 8) (by decide +kernel) (pc' := 432) (by decide) (pn := 427) rfl (fun (q1 : ((x0 >>> ((5 : Int32) &&& 31)) &&& (1 : Int32)) = 0) => ?_) (fun (q1 : ¬ ((x0 >>> ((5 : Int32) &&& 31)) &&& (1 : Int32)) = 0) => ?_)
  · skip
    refine blk C P [.iload_n 3, .bipush 24, .ishr, .sipush 255, .iand, .i2c] (by decide +kernel) (pc' := 441) (L' := [.val (.int x0), .val (.int x1), .val (.int x2), .val (.int x3), .val (.int (x0 &&& (7 : Int32))), .val (.ref pf), .val (.ref ur), .val (.null), .val (.int (0 : Int32)), .val (.ref nm), .val (.int (1 : Int32)), .val (.int (x1 &&& (3 : Int32))), .unset, .unset, .unset, .unset]) (S' := [.int (c16 ((x3 >>> ((24 : Int32) &&& 31)) &&& (255 : Int32)))]) rfl ?_
    refine c_static C P (idx := 9) (y := (⟨"java/lang/String", "valueOf", "(C)Ljava/lang/String;"⟩ : MethodName)) (ybytes := jdk_42_method_139_code) (ymax := 1) (yret := (some (.object "java/lang/String"))) (yrm := ({ frames := 2, cells := 2, slots := 5, locals := 28 } : Room)) (by decide +kernel) (hw _ (List.mem_of_getElem? (i := 0) rfl)) (hw _ (List.mem_of_getElem? (i := 1) rfl)) (hw _ (List.mem_of_getElem? (i := 2) rfl)) (hw _ (List.mem_of_getElem? (i := 3) rfl)) (by decide) [.int (c16 ((x3 >>> ((24 : Int32) &&& 31)) &&& (255 : Int32)))] [] (k_valueOf l hw hEL Sz hz (c16 ((x3 >>> ((24 : Int32) &&& 31)) &&& (255 : Int32))) P.old latv) (le_ _ _ rfl) (W := 0) (le_ _ _ rfl) (by decide +kernel : parseMethodDescriptor "(C)Ljava/lang/String;" = some ⟨[.char], some (.object "java/lang/String")⟩) rfl rfl rfl (le_ _ _ rfl) (le_ _ _ rfl) (le_ _ _ rfl) (pc' := 444) rfl (fun T2 h2 v2 P2 Q2 => ?_)
    replace P2 := P2.more (k' := 13) (n' := 219) (le_ _ _ rfl) (le_ _ _ rfl)
    obtain ⟨b2, rfl, E2, S2⟩ := Q2
    refine blk C P2 [.astore 12] (by decide +kernel) (pc' := 446) (L' := [.val (.int x0), .val (.int x1), .val (.int x2), .val (.int x3), .val (.int (x0 &&& (7 : Int32))), .val (.ref pf), .val (.ref ur), .val (.null), .val (.int (0 : Int32)), .val (.ref nm), .val (.int (1 : Int32)), .val (.int (x1 &&& (3 : Int32))), .val (.ref b2), .unset, .unset, .unset]) (S' := []) rfl ?_
    exact t446_n1u l wd x0 x1 x2 x3 pf ur nm b2 C (P2.more (k' := 13) (n' := 234) (le_ _ _ rfl) (le_ _ _ rfl)) hu0 (Sn.ext E2)
  · skip
    refine s_ldc C P (idx := 42) (txt 86) (by decide +kernel) (hw _ (List.mem_of_getElem? (i := 86) rfl)) wS (by decide +kernel) (by decide +kernel) (by decide +kernel) (by decide +kernel) (len := 16) (by decide) (by decide) (le_ _ _ rfl) (le_ _ _ rfl) (pc' := 429) rfl (fun T3 h3 a3 P3 E3 S3 => ?_)
    replace P3 := P3.more (k' := 13) (n' := 234) (le_ _ _ rfl) (le_ _ _ rfl)
    refine b_goto C P3 (o := 15) (by decide +kernel) (pc' := 444) (by decide) ?_
    refine blk C P3 [.astore 12] (by decide +kernel) (pc' := 446) (L' := [.val (.int x0), .val (.int x1), .val (.int x2), .val (.int x3), .val (.int (x0 &&& (7 : Int32))), .val (.ref pf), .val (.ref ur), .val (.null), .val (.int (0 : Int32)), .val (.ref nm), .val (.int (1 : Int32)), .val (.int (x1 &&& (3 : Int32))), .val (.ref a3), .unset, .unset, .unset]) (S' := []) rfl ?_
    exact t446_n1u l wd x0 x1 x2 x3 pf ur nm a3 C (P3.more (k' := 13) (n' := 234) (le_ _ _ rfl) (le_ _ _ rfl)) hu0 (Sn.ext E3)
set_option maxRecDepth 65536 in
set_option maxHeartbeats 4000000 in
theorem t446_n1c (l : Launch) {Z : State} {a0 : Array Value} {n0 : Nat} {h : Heap} {z : Int32} {kX uX kD uD : Addr} {dl : List Int32} (wd : Wd Z a0 z kX uX kD uD dl) (x0 x1 x2 x3 : Int32) (pf ur : Addr) (nm vl : Addr) (c0 c1 c2 c3 : Int32)  {p : Program} {e : Env} {s : State} {m : MethodId} {args : Array Value} {below : List Frame} {meth : Method} {c : Code} {T : State} (C : Ctx Z a0 consts_1 p s m meth c "com/example/archive_packager/archivepackager/dc/AttributeIsTypePinLaw" "law" code 16 (some .boolean)) (P : Pos Z consts_1 n0 p l e room_1 s m args below meth c T h 13 234) (hu0 : (x0 &&& (7 : Int32)) = 0) (Sn : Str Z h nm (txt 88)) :
    Jvm.Own.Run p.tables e below (Jvm.Own.Ends Z consts_1 n0 room_1 below (Ret1 fun v h' => v = .int 1) s) T (fr m 446 [.val (.int x0), .val (.int x1), .val (.int x2), .val (.int x3), .val (.int (x0 &&& (7 : Int32))), .val (.ref pf), .val (.ref ur), .val (.null), .val (.int (0 : Int32)), .val (.ref nm), .val (.int (1 : Int32)), .val (.int (x1 &&& (3 : Int32))), .val (.ref vl), .val (.int c1), .val (.int c2), .val (.int c3)] []) := by
  obtain ⟨hw, hEL, Sz, hz, YX, XX, GX, SX, YD, XD, GD, SDt, hdl⟩ := id wd
  refine blk C P [.iload_n 0, .iconst 4, .ishr, .iconst 1, .iand] (by decide +kernel) (pc' := 451) (L' := [.val (.int x0), .val (.int x1), .val (.int x2), .val (.int x3), .val (.int (x0 &&& (7 : Int32))), .val (.ref pf), .val (.ref ur), .val (.null), .val (.int (0 : Int32)), .val (.ref nm), .val (.int (1 : Int32)), .val (.int (x1 &&& (3 : Int32))), .val (.ref vl), .val (.int c1), .val (.int c2), .val (.int c3)]) (S' := [.int ((x0 >>> ((4 : Int32) &&& 31)) &&& (1 : Int32))]) rfl ?_
  refine b_if C P (cd := .eq) (o := 9) (by decide +kernel) (pc' := 460) (by decide) (pn := 454) rfl (fun (q1 : ((x0 >>> ((4 : Int32) &&& 31)) &&& (1 : Int32)) = 0) => ?_) (fun (q1 : ¬ ((x0 >>> ((4 : Int32) &&& 31)) &&& (1 : Int32)) = 0) => ?_)
  · skip
    refine blk C P [.aconst_null, .astore 13] (by decide +kernel) (pc' := 463) (L' := [.val (.int x0), .val (.int x1), .val (.int x2), .val (.int x3), .val (.int (x0 &&& (7 : Int32))), .val (.ref pf), .val (.ref ur), .val (.null), .val (.int (0 : Int32)), .val (.ref nm), .val (.int (1 : Int32)), .val (.int (x1 &&& (3 : Int32))), .val (.ref vl), .val (.null), .val (.int c2), .val (.int c3)]) (S' := []) rfl ?_
    refine s_new C P (idx := 50) (by decide +kernel) (hw _ (List.mem_of_getElem? (i := 30) rfl)) (hw _ (List.mem_of_getElem? (i := 31) rfl)) (hw _ (List.mem_of_getElem? (i := 32) rfl)) (le_ _ _ rfl) (le_ _ _ rfl) (pc' := 466) rfl (fun T2 h2 P2 E2 B2 => ?_)
    replace P2 := P2.more (k' := 14) (n' := 238) (le_ _ _ rfl) (le_ _ _ rfl)
    refine blk C P2 [.dup, .aload 7, .aload 9, .aload 12, .aload 13] (by decide +kernel) (pc' := 475) (L' := [.val (.int x0), .val (.int x1), .val (.int x2), .val (.int x3), .val (.int (x0 &&& (7 : Int32))), .val (.ref pf), .val (.ref ur), .val (.null), .val (.int (0 : Int32)), .val (.ref nm), .val (.int (1 : Int32)), .val (.int (x1 &&& (3 : Int32))), .val (.ref vl), .val (.null), .val (.int c2), .val (.int c3)]) (S' := [.null, .ref vl, .ref nm, .null, .ref h.size, .ref h.size]) rfl ?_
    refine c_special C P2 (idx := 52) (y := (⟨"com/example/archive_packager/archivepackager/dc/DcElement$Attribute", "<init>", "(Lcom/example/archive_packager/archivepackager/xml/Namespace;Ljava/lang/String;Ljava/lang/String;Lcom/example/archive_packager/archivepackager/xml/Namespace;)V"⟩ : MethodName)) (ybytes := prog_13_method_1_code) (ymax := 5) (yrm := ({ frames := 2, cells := 0, slots := 0, locals := 24 } : Room)) rfl (by decide +kernel) (hw _ (List.mem_of_getElem? (i := 33) rfl)) (hw _ (List.mem_of_getElem? (i := 34) rfl)) (hw _ (List.mem_of_getElem? (i := 32) rfl)) (hw _ (List.mem_of_getElem? (i := 35) rfl)) (by decide) [.null, .ref nm, .ref vl, .null] [.ref h.size] (k_att_nn l wd (h.size) nm vl P2.old B2) (le_ _ _ rfl) (W := 1) (le_ _ _ rfl) (by decide +kernel : parseMethodDescriptor "(Lcom/example/archive_packager/archivepackager/xml/Namespace;Ljava/lang/String;Ljava/lang/String;Lcom/example/archive_packager/archivepackager/xml/Namespace;)V" = some ⟨[(.object "com/example/archive_packager/archivepackager/xml/Namespace"), (.object "java/lang/String"), (.object "java/lang/String"), (.object "com/example/archive_packager/archivepackager/xml/Namespace")], none⟩) rfl rfl rfl (le_ _ _ rfl) (le_ _ _ rfl) (le_ _ _ rfl) (pc' := 478) rfl (fun T3 h3 P3 Q3 => ?_)
    replace P3 := P3.more (k' := 14) (n' := 238) (le_ _ _ rfl) (le_ _ _ rfl)
    obtain ⟨K3, A3, F3_0, F3_1⟩ := Q3
    refine blk C P3 [.astore 14, .iload 4] (by decide +kernel) (pc' := 482) (L' := [.val (.int x0), .val (.int x1), .val (.int x2), .val (.int x3), .val (.int (x0 &&& (7 : Int32))), .val (.ref pf), .val (.ref ur), .val (.null), .val (.int (0 : Int32)), .val (.ref nm), .val (.int (1 : Int32)), .val (.int (x1 &&& (3 : Int32))), .val (.ref vl), .val (.null), .val (.ref h.size), .val (.int c3)]) (S' := [.int (x0 &&& (7 : Int32))]) rfl ?_
    refine b_ifY C P3 (cd := .eq) (o := 17) (by decide +kernel) (pc' := 499) (by decide) hu0 ?_
    refine blk C P3 [.iconst 0, .istore 15, .aload 14] (by decide +kernel) (pc' := 504) (L' := [.val (.int x0), .val (.int x1), .val (.int x2), .val (.int x3), .val (.int (x0 &&& (7 : Int32))), .val (.ref pf), .val (.ref ur), .val (.null), .val (.int (0 : Int32)), .val (.ref nm), .val (.int (1 : Int32)), .val (.int (x1 &&& (3 : Int32))), .val (.ref vl), .val (.null), .val (.ref h.size), .val (.int (0 : Int32))]) (S' := [.ref h.size]) rfl ?_
    refine c_virtual C P3 (idx := 55) (y := (⟨"com/example/archive_packager/archivepackager/dc/DcElement$Attribute", "isType", "()Z"⟩ : MethodName)) (K0 := "com/example/archive_packager/archivepackager/dc/DcElement$Attribute") (ybytes := prog_13_method_2_code) (ymax := 1) (yret := (some .boolean)) (yrm := ({ frames := 0, cells := 0, slots := 0, locals := 0 } : Room)) (by decide +kernel) (hw _ (List.mem_of_getElem? (i := 50) rfl)) (hw _ (List.mem_of_getElem? (i := 51) rfl)) (hw _ (List.mem_of_getElem? (i := 53) rfl)) (hw _ (List.mem_of_getElem? (i := 52) rfl)) (hw _ (List.mem_of_getElem? (i := 32) rfl)) (hw _ (List.mem_of_getElem? (i := 54) rfl)) (by decide) A3 [] [] (k_is_n l wd (h.size) P3.old F3_0) (le_ _ _ rfl) (W := 0) (le_ _ _ rfl) (by decide +kernel : parseMethodDescriptor "()Z" = some ⟨[], some .boolean⟩) rfl rfl rfl (le_ _ _ rfl) (le_ _ _ rfl) (le_ _ _ rfl) (pc' := 507) rfl (fun T4 h4 v4 P4 Q4 => ?_)
    replace P4 := P4.more (k' := 14) (n' := 238) (le_ _ _ rfl) (le_ _ _ rfl)
    obtain ⟨rfl, rfl⟩ := Q4
    refine blk C P4 [.iload 15] (by decide +kernel) (pc' := 509) (L' := [.val (.int x0), .val (.int x1), .val (.int x2), .val (.int x3), .val (.int (x0 &&& (7 : Int32))), .val (.ref pf), .val (.ref ur), .val (.null), .val (.int (0 : Int32)), .val (.ref nm), .val (.int (1 : Int32)), .val (.int (x1 &&& (3 : Int32))), .val (.ref vl), .val (.null), .val (.ref h.size), .val (.int (0 : Int32))]) (S' := [.int (0 : Int32), .int (0 : Int32)]) rfl ?_
    refine b_cmN C P4 (cd := .ne) (o := 7) (by decide +kernel) (pc' := 512) rfl (by decide : (0 : Int32) = (0 : Int32)) ?_
    refine blk C P4 [.iconst 1] (by decide +kernel) (pc' := 513) (L' := [.val (.int x0), .val (.int x1), .val (.int x2), .val (.int x3), .val (.int (x0 &&& (7 : Int32))), .val (.ref pf), .val (.ref ur), .val (.null), .val (.int (0 : Int32)), .val (.ref nm), .val (.int (1 : Int32)), .val (.int (x1 &&& (3 : Int32))), .val (.ref vl), .val (.null), .val (.ref h.size), .val (.int (0 : Int32))]) (S' := [.int (1 : Int32)]) rfl ?_
    refine b_goto C P4 (o := 4) (by decide +kernel) (pc' := 517) (by decide) ?_
    exact r_int C P4 (ty := .boolean) (by simp) rfl (by decide +kernel) (le_ _ _ rfl) (le_ _ _ rfl) ⟨_, rfl, rfl⟩
  · skip
    refine s_gets C P (idx := 15) (by decide +kernel) (hw _ (List.mem_of_getElem? (i := 87) rfl)) YX (pc' := 457) rfl (fun T5 P5 => ?_)
    refine b_goto C P5 (o := 4) (by decide +kernel) (pc' := 461) (by decide) ?_
    refine blk C P5 [.astore 13] (by decide +kernel) (pc' := 463) (L' := [.val (.int x0), .val (.int x1), .val (.int x2), .val (.int x3), .val (.int (x0 &&& (7 : Int32))), .val (.ref pf), .val (.ref ur), .val (.null), .val (.int (0 : Int32)), .val (.ref nm), .val (.int (1 : Int32)), .val (.int (x1 &&& (3 : Int32))), .val (.ref vl), .val (.ref kX), .val (.int c2), .val (.int c3)]) (S' := []) rfl ?_
    refine s_new C P5 (idx := 50) (by decide +kernel) (hw _ (List.mem_of_getElem? (i := 30) rfl)) (hw _ (List.mem_of_getElem? (i := 31) rfl)) (hw _ (List.mem_of_getElem? (i := 32) rfl)) (le_ _ _ rfl) (le_ _ _ rfl) (pc' := 466) rfl (fun T6 h6 P6 E6 B6 => ?_)
    replace P6 := P6.more (k' := 14) (n' := 238) (le_ _ _ rfl) (le_ _ _ rfl)
    refine blk C P6 [.dup, .aload 7, .aload 9, .aload 12, .aload 13] (by decide +kernel) (pc' := 475) (L' := [.val (.int x0), .val (.int x1), .val (.int x2), .val (.int x3), .val (.int (x0 &&& (7 : Int32))), .val (.ref pf), .val (.ref ur), .val (.null), .val (.int (0 : Int32)), .val (.ref nm), .val (.int (1 : Int32)), .val (.int (x1 &&& (3 : Int32))), .val (.ref vl), .val (.ref kX), .val (.int c2), .val (.int c3)]) (S' := [.ref kX, .ref vl, .ref nm, .null, .ref h.size, .ref h.size]) rfl ?_
    refine c_special C P6 (idx := 52) (y := (⟨"com/example/archive_packager/archivepackager/dc/DcElement$Attribute", "<init>", "(Lcom/example/archive_packager/archivepackager/xml/Namespace;Ljava/lang/String;Ljava/lang/String;Lcom/example/archive_packager/archivepackager/xml/Namespace;)V"⟩ : MethodName)) (ybytes := prog_13_method_1_code) (ymax := 5) (yrm := ({ frames := 2, cells := 0, slots := 0, locals := 24 } : Room)) rfl (by decide +kernel) (hw _ (List.mem_of_getElem? (i := 33) rfl)) (hw _ (List.mem_of_getElem? (i := 34) rfl)) (hw _ (List.mem_of_getElem? (i := 32) rfl)) (hw _ (List.mem_of_getElem? (i := 35) rfl)) (by decide) [.null, .ref nm, .ref vl, .ref kX] [.ref h.size] (k_att_nr l wd (h.size) nm vl kX P6.old B6) (le_ _ _ rfl) (W := 1) (le_ _ _ rfl) (by decide +kernel : parseMethodDescriptor "(Lcom/example/archive_packager/archivepackager/xml/Namespace;Ljava/lang/String;Ljava/lang/String;Lcom/example/archive_packager/archivepackager/xml/Namespace;)V" = some ⟨[(.object "com/example/archive_packager/archivepackager/xml/Namespace"), (.object "java/lang/String"), (.object "java/lang/String"), (.object "com/example/archive_packager/archivepackager/xml/Namespace")], none⟩) rfl rfl rfl (le_ _ _ rfl) (le_ _ _ rfl) (le_ _ _ rfl) (pc' := 478) rfl (fun T7 h7 P7 Q7 => ?_)
    replace P7 := P7.more (k' := 14) (n' := 238) (le_ _ _ rfl) (le_ _ _ rfl)
    obtain ⟨K7, A7, F7_0, F7_1⟩ := Q7
    refine blk C P7 [.astore 14, .iload 4] (by decide +kernel) (pc' := 482) (L' := [.val (.int x0), .val (.int x1), .val (.int x2), .val (.int x3), .val (.int (x0 &&& (7 : Int32))), .val (.ref pf), .val (.ref ur), .val (.null), .val (.int (0 : Int32)), .val (.ref nm), .val (.int (1 : Int32)), .val (.int (x1 &&& (3 : Int32))), .val (.ref vl), .val (.ref kX), .val (.ref h.size), .val (.int c3)]) (S' := [.int (x0 &&& (7 : Int32))]) rfl ?_
    refine b_ifY C P7 (cd := .eq) (o := 17) (by decide +kernel) (pc' := 499) (by decide) hu0 ?_
    refine blk C P7 [.iconst 0, .istore 15, .aload 14] (by decide +kernel) (pc' := 504) (L' := [.val (.int x0), .val (.int x1), .val (.int x2), .val (.int x3), .val (.int (x0 &&& (7 : Int32))), .val (.ref pf), .val (.ref ur), .val (.null), .val (.int (0 : Int32)), .val (.ref nm), .val (.int (1 : Int32)), .val (.int (x1 &&& (3 : Int32))), .val (.ref vl), .val (.ref kX), .val (.ref h.size), .val (.int (0 : Int32))]) (S' := [.ref h.size]) rfl ?_
    refine c_virtual C P7 (idx := 55) (y := (⟨"com/example/archive_packager/archivepackager/dc/DcElement$Attribute", "isType", "()Z"⟩ : MethodName)) (K0 := "com/example/archive_packager/archivepackager/dc/DcElement$Attribute") (ybytes := prog_13_method_2_code) (ymax := 1) (yret := (some .boolean)) (yrm := ({ frames := 0, cells := 0, slots := 0, locals := 0 } : Room)) (by decide +kernel) (hw _ (List.mem_of_getElem? (i := 50) rfl)) (hw _ (List.mem_of_getElem? (i := 51) rfl)) (hw _ (List.mem_of_getElem? (i := 53) rfl)) (hw _ (List.mem_of_getElem? (i := 52) rfl)) (hw _ (List.mem_of_getElem? (i := 32) rfl)) (hw _ (List.mem_of_getElem? (i := 54) rfl)) (by decide) A7 [] [] (k_is_n l wd (h.size) P7.old F7_0) (le_ _ _ rfl) (W := 0) (le_ _ _ rfl) (by decide +kernel : parseMethodDescriptor "()Z" = some ⟨[], some .boolean⟩) rfl rfl rfl (le_ _ _ rfl) (le_ _ _ rfl) (le_ _ _ rfl) (pc' := 507) rfl (fun T8 h8 v8 P8 Q8 => ?_)
    replace P8 := P8.more (k' := 14) (n' := 238) (le_ _ _ rfl) (le_ _ _ rfl)
    obtain ⟨rfl, rfl⟩ := Q8
    refine blk C P8 [.iload 15] (by decide +kernel) (pc' := 509) (L' := [.val (.int x0), .val (.int x1), .val (.int x2), .val (.int x3), .val (.int (x0 &&& (7 : Int32))), .val (.ref pf), .val (.ref ur), .val (.null), .val (.int (0 : Int32)), .val (.ref nm), .val (.int (1 : Int32)), .val (.int (x1 &&& (3 : Int32))), .val (.ref vl), .val (.ref kX), .val (.ref h.size), .val (.int (0 : Int32))]) (S' := [.int (0 : Int32), .int (0 : Int32)]) rfl ?_
    refine b_cmN C P8 (cd := .ne) (o := 7) (by decide +kernel) (pc' := 512) rfl (by decide : (0 : Int32) = (0 : Int32)) ?_
    refine blk C P8 [.iconst 1] (by decide +kernel) (pc' := 513) (L' := [.val (.int x0), .val (.int x1), .val (.int x2), .val (.int x3), .val (.int (x0 &&& (7 : Int32))), .val (.ref pf), .val (.ref ur), .val (.null), .val (.int (0 : Int32)), .val (.ref nm), .val (.int (1 : Int32)), .val (.int (x1 &&& (3 : Int32))), .val (.ref vl), .val (.ref kX), .val (.ref h.size), .val (.int (0 : Int32))]) (S' := [.int (1 : Int32)]) rfl ?_
    refine b_goto C P8 (o := 4) (by decide +kernel) (pc' := 517) (by decide) ?_
    exact r_int C P8 (ty := .boolean) (by simp) rfl (by decide +kernel) (le_ _ _ rfl) (le_ _ _ rfl) ⟨_, rfl, rfl⟩
set_option maxRecDepth 65536 in
set_option maxHeartbeats 4000000 in
theorem t419_n1c (l : Launch) {Z : State} {a0 : Array Value} {n0 : Nat} {h : Heap} {z : Int32} {kX uX kD uD : Addr} {dl : List Int32} (wd : Wd Z a0 z kX uX kD uD dl) (x0 x1 x2 x3 : Int32) (pf ur : Addr) (nm : Addr) (c0 c1 c2 c3 : Int32)  {p : Program} {e : Env} {s : State} {m : MethodId} {args : Array Value} {below : List Frame} {meth : Method} {c : Code} {T : State} (C : Ctx Z a0 consts_1 p s m meth c "com/example/archive_packager/archivepackager/dc/AttributeIsTypePinLaw" "law" code 16 (some .boolean)) (P : Pos Z consts_1 n0 p l e room_1 s m args below meth c T h 11 214) (hu0 : (x0 &&& (7 : Int32)) = 0) (Sn : Str Z h nm (txt 88)) :
    Jvm.Own.Run p.tables e below (Jvm.Own.Ends Z consts_1 n0 room_1 below (Ret1 fun v h' => v = .int 1) s) T (fr m 419 [.val (.int x0), .val (.int x1), .val (.int x2), .val (.int x3), .val (.int (x0 &&& (7 : Int32))), .val (.ref pf), .val (.ref ur), .val (.null), .val (.int (0 : Int32)), .val (.ref nm), .val (.int (1 : Int32)), .val (.int (x1 &&& (3 : Int32))), .val (.int c0), .val (.int c1), .val (.int c2), .val (.int c3)] []) := by
  obtain ⟨hw, hEL, Sz, hz, YX, XX, GX, SX, YD, XD, GD, SDt, hdl⟩ := id wd
  have wS : ∀ a ∈ Bundle.stringAtoms, a.before a0 Z = true := fun d hd => hw d ((by decide +kernel : ∀ d ∈ Bundle.stringAtoms, d ∈ tables_1) d hd)
  refine blk C P [.iload_n 0, .iconst 5, .ishr, .iconst 1, .iand] (by decide +kernel) (pc' := 424) (L' := [.val (.int x0), .val (.int x1), .val (.int x2), .val (.int x3), .val (.int (x0 &&& (7 : Int32))), .val (.ref pf), .val (.ref ur), .val (.null), .val (.int (0 : Int32)), .val (.ref nm), .val (.int (1 : Int32)), .val (.int (x1 &&& (3 : Int32))), .val (.int c0), .val (.int c1), .val (.int c2), .val (.int c3)]) (S' := [.int ((x0 >>> ((5 : Int32) &&& 31)) &&& (1 : Int32))]) rfl ?_
  refine b_if C P (cd := .eq) (o := 8) (by decide +kernel) (pc' := 432) (by decide) (pn := 427) rfl (fun (q1 : ((x0 >>> ((5 : Int32) &&& 31)) &&& (1 : Int32)) = 0) => ?_) (fun (q1 : ¬ ((x0 >>> ((5 : Int32) &&& 31)) &&& (1 : Int32)) = 0) => ?_)
  · skip
    refine blk C P [.iload_n 3, .bipush 24, .ishr, .sipush 255, .iand, .i2c] (by decide +kernel) (pc' := 441) (L' := [.val (.int x0), .val (.int x1), .val (.int x2), .val (.int x3), .val (.int (x0 &&& (7 : Int32))), .val (.ref pf), .val (.ref ur), .val (.null), .val (.int (0 : Int32)), .val (.ref nm), .val (.int (1 : Int32)), .val (.int (x1 &&& (3 : Int32))), .val (.int c0), .val (.int c1), .val (.int c2), .val (.int c3)]) (S' := [.int (c16 ((x3 >>> ((24 : Int32) &&& 31)) &&& (255 : Int32)))]) rfl ?_
    refine c_static C P (idx := 9) (y := (⟨"java/lang/String", "valueOf", "(C)Ljava/lang/String;"⟩ : MethodName)) (ybytes := jdk_42_method_139_code) (ymax := 1) (yret := (some (.object "java/lang/String"))) (yrm := ({ frames := 2, cells := 2, slots := 5, locals := 28 } : Room)) (by decide +kernel) (hw _ (List.mem_of_getElem? (i := 0) rfl)) (hw _ (List.mem_of_getElem? (i := 1) rfl)) (hw _ (List.mem_of_getElem? (i := 2) rfl)) (hw _ (List.mem_of_getElem? (i := 3) rfl)) (by decide) [.int (c16 ((x3 >>> ((24 : Int32) &&& 31)) &&& (255 : Int32)))] [] (k_valueOf l hw hEL Sz hz (c16 ((x3 >>> ((24 : Int32) &&& 31)) &&& (255 : Int32))) P.old latv) (le_ _ _ rfl) (W := 0) (le_ _ _ rfl) (by decide +kernel : parseMethodDescriptor "(C)Ljava/lang/String;" = some ⟨[.char], some (.object "java/lang/String")⟩) rfl rfl rfl (le_ _ _ rfl) (le_ _ _ rfl) (le_ _ _ rfl) (pc' := 444) rfl (fun T2 h2 v2 P2 Q2 => ?_)
    replace P2 := P2.more (k' := 13) (n' := 219) (le_ _ _ rfl) (le_ _ _ rfl)
    obtain ⟨b2, rfl, E2, S2⟩ := Q2
    refine blk C P2 [.astore 12] (by decide +kernel) (pc' := 446) (L' := [.val (.int x0), .val (.int x1), .val (.int x2), .val (.int x3), .val (.int (x0 &&& (7 : Int32))), .val (.ref pf), .val (.ref ur), .val (.null), .val (.int (0 : Int32)), .val (.ref nm), .val (.int (1 : Int32)), .val (.int (x1 &&& (3 : Int32))), .val (.ref b2), .val (.int c1), .val (.int c2), .val (.int c3)]) (S' := []) rfl ?_
    exact t446_n1c l wd x0 x1 x2 x3 pf ur nm b2 c0 c1 c2 c3 C (P2.more (k' := 13) (n' := 234) (le_ _ _ rfl) (le_ _ _ rfl)) hu0 (Sn.ext E2)
  · skip
    refine s_ldc C P (idx := 42) (txt 86) (by decide +kernel) (hw _ (List.mem_of_getElem? (i := 86) rfl)) wS (by decide +kernel) (by decide +kernel) (by decide +kernel) (by decide +kernel) (len := 16) (by decide) (by decide) (le_ _ _ rfl) (le_ _ _ rfl) (pc' := 429) rfl (fun T3 h3 a3 P3 E3 S3 => ?_)
    replace P3 := P3.more (k' := 13) (n' := 234) (le_ _ _ rfl) (le_ _ _ rfl)
    refine b_goto C P3 (o := 15) (by decide +kernel) (pc' := 444) (by decide) ?_
    refine blk C P3 [.astore 12] (by decide +kernel) (pc' := 446) (L' := [.val (.int x0), .val (.int x1), .val (.int x2), .val (.int x3), .val (.int (x0 &&& (7 : Int32))), .val (.ref pf), .val (.ref ur), .val (.null), .val (.int (0 : Int32)), .val (.ref nm), .val (.int (1 : Int32)), .val (.int (x1 &&& (3 : Int32))), .val (.ref a3), .val (.int c1), .val (.int c2), .val (.int c3)]) (S' := []) rfl ?_
    exact t446_n1c l wd x0 x1 x2 x3 pf ur nm a3 c0 c1 c2 c3 C (P3.more (k' := 13) (n' := 234) (le_ _ _ rfl) (le_ _ _ rfl)) hu0 (Sn.ext E3)
set_option maxRecDepth 65536 in
set_option maxHeartbeats 4000000 in
theorem t446_n0u (l : Launch) {Z : State} {a0 : Array Value} {n0 : Nat} {h : Heap} {z : Int32} {kX uX kD uD : Addr} {dl : List Int32} (wd : Wd Z a0 z kX uX kD uD dl) (x0 x1 x2 x3 : Int32) (pf ur : Addr) (nm vl : Addr)  {nms : List Int32} {p : Program} {e : Env} {s : State} {m : MethodId} {args : Array Value} {below : List Frame} {meth : Method} {c : Code} {T : State} (C : Ctx Z a0 consts_1 p s m meth c "com/example/archive_packager/archivepackager/dc/AttributeIsTypePinLaw" "law" code 16 (some .boolean)) (P : Pos Z consts_1 n0 p l e room_1 s m args below meth c T h 13 234) (hu0 : (x0 &&& (7 : Int32)) = 0) (Sn : Str Z h nm nms) (hn : ¬ nms = (txt 88)) :
    Jvm.Own.Run p.tables e below (Jvm.Own.Ends Z consts_1 n0 room_1 below (Ret1 fun v h' => v = .int 1) s) T (fr m 446 [.val (.int x0), .val (.int x1), .val (.int x2), .val (.int x3), .val (.int (x0 &&& (7 : Int32))), .val (.ref pf), .val (.ref ur), .val (.null), .val (.int (0 : Int32)), .val (.ref nm), .val (.int (0 : Int32)), .val (.int (x1 &&& (3 : Int32))), .val (.ref vl), .unset, .unset, .unset] []) := by
  obtain ⟨hw, hEL, Sz, hz, YX, XX, GX, SX, YD, XD, GD, SDt, hdl⟩ := id wd
  refine blk C P [.iload_n 0, .iconst 4, .ishr, .iconst 1, .iand] (by decide +kernel) (pc' := 451) (L' := [.val (.int x0), .val (.int x1), .val (.int x2), .val (.int x3), .val (.int (x0 &&& (7 : Int32))), .val (.ref pf), .val (.ref ur), .val (.null), .val (.int (0 : Int32)), .val (.ref nm), .val (.int (0 : Int32)), .val (.int (x1 &&& (3 : Int32))), .val (.ref vl), .unset, .unset, .unset]) (S' := [.int ((x0 >>> ((4 : Int32) &&& 31)) &&& (1 : Int32))]) rfl ?_
  refine b_if C P (cd := .eq) (o := 9) (by decide +kernel) (pc' := 460) (by decide) (pn := 454) rfl (fun (q1 : ((x0 >>> ((4 : Int32) &&& 31)) &&& (1 : Int32)) = 0) => ?_) (fun (q1 : ¬ ((x0 >>> ((4 : Int32) &&& 31)) &&& (1 : Int32)) = 0) => ?_)
  · skip
    refine blk C P [.aconst_null, .astore 13] (by decide +kernel) (pc' := 463) (L' := [.val (.int x0), .val (.int x1), .val (.int x2), .val (.int x3), .val (.int (x0 &&& (7 : Int32))), .val (.ref pf), .val (.ref ur), .val (.null), .val (.int (0 : Int32)), .val (.ref nm), .val (.int (0 : Int32)), .val (.int (x1 &&& (3 : Int32))), .val (.ref vl), .val (.null), .unset, .unset]) (S' := []) rfl ?_
    refine s_new C P (idx := 50) (by decide +kernel) (hw _ (List.mem_of_getElem? (i := 30) rfl)) (hw _ (List.mem_of_getElem? (i := 31) rfl)) (hw _ (List.mem_of_getElem? (i := 32) rfl)) (le_ _ _ rfl) (le_ _ _ rfl) (pc' := 466) rfl (fun T2 h2 P2 E2 B2 => ?_)
    replace P2 := P2.more (k' := 14) (n' := 238) (le_ _ _ rfl) (le_ _ _ rfl)
    refine blk C P2 [.dup, .aload 7, .aload 9, .aload 12, .aload 13] (by decide +kernel) (pc' := 475) (L' := [.val (.int x0), .val (.int x1), .val (.int x2), .val (.int x3), .val (.int (x0 &&& (7 : Int32))), .val (.ref pf), .val (.ref ur), .val (.null), .val (.int (0 : Int32)), .val (.ref nm), .val (.int (0 : Int32)), .val (.int (x1 &&& (3 : Int32))), .val (.ref vl), .val (.null), .unset, .unset]) (S' := [.null, .ref vl, .ref nm, .null, .ref h.size, .ref h.size]) rfl ?_
    refine c_special C P2 (idx := 52) (y := (⟨"com/example/archive_packager/archivepackager/dc/DcElement$Attribute", "<init>", "(Lcom/example/archive_packager/archivepackager/xml/Namespace;Ljava/lang/String;Ljava/lang/String;Lcom/example/archive_packager/archivepackager/xml/Namespace;)V"⟩ : MethodName)) (ybytes := prog_13_method_1_code) (ymax := 5) (yrm := ({ frames := 2, cells := 0, slots := 0, locals := 24 } : Room)) rfl (by decide +kernel) (hw _ (List.mem_of_getElem? (i := 33) rfl)) (hw _ (List.mem_of_getElem? (i := 34) rfl)) (hw _ (List.mem_of_getElem? (i := 32) rfl)) (hw _ (List.mem_of_getElem? (i := 35) rfl)) (by decide) [.null, .ref nm, .ref vl, .null] [.ref h.size] (k_att_nn l wd (h.size) nm vl P2.old B2) (le_ _ _ rfl) (W := 1) (le_ _ _ rfl) (by decide +kernel : parseMethodDescriptor "(Lcom/example/archive_packager/archivepackager/xml/Namespace;Ljava/lang/String;Ljava/lang/String;Lcom/example/archive_packager/archivepackager/xml/Namespace;)V" = some ⟨[(.object "com/example/archive_packager/archivepackager/xml/Namespace"), (.object "java/lang/String"), (.object "java/lang/String"), (.object "com/example/archive_packager/archivepackager/xml/Namespace")], none⟩) rfl rfl rfl (le_ _ _ rfl) (le_ _ _ rfl) (le_ _ _ rfl) (pc' := 478) rfl (fun T3 h3 P3 Q3 => ?_)
    replace P3 := P3.more (k' := 14) (n' := 238) (le_ _ _ rfl) (le_ _ _ rfl)
    obtain ⟨K3, A3, F3_0, F3_1⟩ := Q3
    refine blk C P3 [.astore 14, .iload 4] (by decide +kernel) (pc' := 482) (L' := [.val (.int x0), .val (.int x1), .val (.int x2), .val (.int x3), .val (.int (x0 &&& (7 : Int32))), .val (.ref pf), .val (.ref ur), .val (.null), .val (.int (0 : Int32)), .val (.ref nm), .val (.int (0 : Int32)), .val (.int (x1 &&& (3 : Int32))), .val (.ref vl), .val (.null), .val (.ref h.size), .unset]) (S' := [.int (x0 &&& (7 : Int32))]) rfl ?_
    refine b_ifY C P3 (cd := .eq) (o := 17) (by decide +kernel) (pc' := 499) (by decide) hu0 ?_
    refine blk C P3 [.iconst 0, .istore 15, .aload 14] (by decide +kernel) (pc' := 504) (L' := [.val (.int x0), .val (.int x1), .val (.int x2), .val (.int x3), .val (.int (x0 &&& (7 : Int32))), .val (.ref pf), .val (.ref ur), .val (.null), .val (.int (0 : Int32)), .val (.ref nm), .val (.int (0 : Int32)), .val (.int (x1 &&& (3 : Int32))), .val (.ref vl), .val (.null), .val (.ref h.size), .val (.int (0 : Int32))]) (S' := [.ref h.size]) rfl ?_
    refine c_virtual C P3 (idx := 55) (y := (⟨"com/example/archive_packager/archivepackager/dc/DcElement$Attribute", "isType", "()Z"⟩ : MethodName)) (K0 := "com/example/archive_packager/archivepackager/dc/DcElement$Attribute") (ybytes := prog_13_method_2_code) (ymax := 1) (yret := (some .boolean)) (yrm := ({ frames := 0, cells := 0, slots := 0, locals := 0 } : Room)) (by decide +kernel) (hw _ (List.mem_of_getElem? (i := 50) rfl)) (hw _ (List.mem_of_getElem? (i := 51) rfl)) (hw _ (List.mem_of_getElem? (i := 53) rfl)) (hw _ (List.mem_of_getElem? (i := 52) rfl)) (hw _ (List.mem_of_getElem? (i := 32) rfl)) (hw _ (List.mem_of_getElem? (i := 54) rfl)) (by decide) A3 [] [] (k_is_n l wd (h.size) P3.old F3_0) (le_ _ _ rfl) (W := 0) (le_ _ _ rfl) (by decide +kernel : parseMethodDescriptor "()Z" = some ⟨[], some .boolean⟩) rfl rfl rfl (le_ _ _ rfl) (le_ _ _ rfl) (le_ _ _ rfl) (pc' := 507) rfl (fun T4 h4 v4 P4 Q4 => ?_)
    replace P4 := P4.more (k' := 14) (n' := 238) (le_ _ _ rfl) (le_ _ _ rfl)
    obtain ⟨rfl, rfl⟩ := Q4
    refine blk C P4 [.iload 15] (by decide +kernel) (pc' := 509) (L' := [.val (.int x0), .val (.int x1), .val (.int x2), .val (.int x3), .val (.int (x0 &&& (7 : Int32))), .val (.ref pf), .val (.ref ur), .val (.null), .val (.int (0 : Int32)), .val (.ref nm), .val (.int (0 : Int32)), .val (.int (x1 &&& (3 : Int32))), .val (.ref vl), .val (.null), .val (.ref h.size), .val (.int (0 : Int32))]) (S' := [.int (0 : Int32), .int (0 : Int32)]) rfl ?_
    refine b_cmN C P4 (cd := .ne) (o := 7) (by decide +kernel) (pc' := 512) rfl (by decide : (0 : Int32) = (0 : Int32)) ?_
    refine blk C P4 [.iconst 1] (by decide +kernel) (pc' := 513) (L' := [.val (.int x0), .val (.int x1), .val (.int x2), .val (.int x3), .val (.int (x0 &&& (7 : Int32))), .val (.ref pf), .val (.ref ur), .val (.null), .val (.int (0 : Int32)), .val (.ref nm), .val (.int (0 : Int32)), .val (.int (x1 &&& (3 : Int32))), .val (.ref vl), .val (.null), .val (.ref h.size), .val (.int (0 : Int32))]) (S' := [.int (1 : Int32)]) rfl ?_
    refine b_goto C P4 (o := 4) (by decide +kernel) (pc' := 517) (by decide) ?_
    exact r_int C P4 (ty := .boolean) (by simp) rfl (by decide +kernel) (le_ _ _ rfl) (le_ _ _ rfl) ⟨_, rfl, rfl⟩
  · skip
    refine s_gets C P (idx := 15) (by decide +kernel) (hw _ (List.mem_of_getElem? (i := 87) rfl)) YX (pc' := 457) rfl (fun T5 P5 => ?_)
    refine b_goto C P5 (o := 4) (by decide +kernel) (pc' := 461) (by decide) ?_
    refine blk C P5 [.astore 13] (by decide +kernel) (pc' := 463) (L' := [.val (.int x0), .val (.int x1), .val (.int x2), .val (.int x3), .val (.int (x0 &&& (7 : Int32))), .val (.ref pf), .val (.ref ur), .val (.null), .val (.int (0 : Int32)), .val (.ref nm), .val (.int (0 : Int32)), .val (.int (x1 &&& (3 : Int32))), .val (.ref vl), .val (.ref kX), .unset, .unset]) (S' := []) rfl ?_
    refine s_new C P5 (idx := 50) (by decide +kernel) (hw _ (List.mem_of_getElem? (i := 30) rfl)) (hw _ (List.mem_of_getElem? (i := 31) rfl)) (hw _ (List.mem_of_getElem? (i := 32) rfl)) (le_ _ _ rfl) (le_ _ _ rfl) (pc' := 466) rfl (fun T6 h6 P6 E6 B6 => ?_)
    replace P6 := P6.more (k' := 14) (n' := 238) (le_ _ _ rfl) (le_ _ _ rfl)
    refine blk C P6 [.dup, .aload 7, .aload 9, .aload 12, .aload 13] (by decide +kernel) (pc' := 475) (L' := [.val (.int x0), .val (.int x1), .val (.int x2), .val (.int x3), .val (.int (x0 &&& (7 : Int32))), .val (.ref pf), .val (.ref ur), .val (.null), .val (.int (0 : Int32)), .val (.ref nm), .val (.int (0 : Int32)), .val (.int (x1 &&& (3 : Int32))), .val (.ref vl), .val (.ref kX), .unset, .unset]) (S' := [.ref kX, .ref vl, .ref nm, .null, .ref h.size, .ref h.size]) rfl ?_
    refine c_special C P6 (idx := 52) (y := (⟨"com/example/archive_packager/archivepackager/dc/DcElement$Attribute", "<init>", "(Lcom/example/archive_packager/archivepackager/xml/Namespace;Ljava/lang/String;Ljava/lang/String;Lcom/example/archive_packager/archivepackager/xml/Namespace;)V"⟩ : MethodName)) (ybytes := prog_13_method_1_code) (ymax := 5) (yrm := ({ frames := 2, cells := 0, slots := 0, locals := 24 } : Room)) rfl (by decide +kernel) (hw _ (List.mem_of_getElem? (i := 33) rfl)) (hw _ (List.mem_of_getElem? (i := 34) rfl)) (hw _ (List.mem_of_getElem? (i := 32) rfl)) (hw _ (List.mem_of_getElem? (i := 35) rfl)) (by decide) [.null, .ref nm, .ref vl, .ref kX] [.ref h.size] (k_att_nr l wd (h.size) nm vl kX P6.old B6) (le_ _ _ rfl) (W := 1) (le_ _ _ rfl) (by decide +kernel : parseMethodDescriptor "(Lcom/example/archive_packager/archivepackager/xml/Namespace;Ljava/lang/String;Ljava/lang/String;Lcom/example/archive_packager/archivepackager/xml/Namespace;)V" = some ⟨[(.object "com/example/archive_packager/archivepackager/xml/Namespace"), (.object "java/lang/String"), (.object "java/lang/String"), (.object "com/example/archive_packager/archivepackager/xml/Namespace")], none⟩) rfl rfl rfl (le_ _ _ rfl) (le_ _ _ rfl) (le_ _ _ rfl) (pc' := 478) rfl (fun T7 h7 P7 Q7 => ?_)
    replace P7 := P7.more (k' := 14) (n' := 238) (le_ _ _ rfl) (le_ _ _ rfl)
    obtain ⟨K7, A7, F7_0, F7_1⟩ := Q7
    refine blk C P7 [.astore 14, .iload 4] (by decide +kernel) (pc' := 482) (L' := [.val (.int x0), .val (.int x1), .val (.int x2), .val (.int x3), .val (.int (x0 &&& (7 : Int32))), .val (.ref pf), .val (.ref ur), .val (.null), .val (.int (0 : Int32)), .val (.ref nm), .val (.int (0 : Int32)), .val (.int (x1 &&& (3 : Int32))), .val (.ref vl), .val (.ref kX), .val (.ref h.size), .unset]) (S' := [.int (x0 &&& (7 : Int32))]) rfl ?_
    refine b_ifY C P7 (cd := .eq) (o := 17) (by decide +kernel) (pc' := 499) (by decide) hu0 ?_
    refine blk C P7 [.iconst 0, .istore 15, .aload 14] (by decide +kernel) (pc' := 504) (L' := [.val (.int x0), .val (.int x1), .val (.int x2), .val (.int x3), .val (.int (x0 &&& (7 : Int32))), .val (.ref pf), .val (.ref ur), .val (.null), .val (.int (0 : Int32)), .val (.ref nm), .val (.int (0 : Int32)), .val (.int (x1 &&& (3 : Int32))), .val (.ref vl), .val (.ref kX), .val (.ref h.size), .val (.int (0 : Int32))]) (S' := [.ref h.size]) rfl ?_
    refine c_virtual C P7 (idx := 55) (y := (⟨"com/example/archive_packager/archivepackager/dc/DcElement$Attribute", "isType", "()Z"⟩ : MethodName)) (K0 := "com/example/archive_packager/archivepackager/dc/DcElement$Attribute") (ybytes := prog_13_method_2_code) (ymax := 1) (yret := (some .boolean)) (yrm := ({ frames := 0, cells := 0, slots := 0, locals := 0 } : Room)) (by decide +kernel) (hw _ (List.mem_of_getElem? (i := 50) rfl)) (hw _ (List.mem_of_getElem? (i := 51) rfl)) (hw _ (List.mem_of_getElem? (i := 53) rfl)) (hw _ (List.mem_of_getElem? (i := 52) rfl)) (hw _ (List.mem_of_getElem? (i := 32) rfl)) (hw _ (List.mem_of_getElem? (i := 54) rfl)) (by decide) A7 [] [] (k_is_n l wd (h.size) P7.old F7_0) (le_ _ _ rfl) (W := 0) (le_ _ _ rfl) (by decide +kernel : parseMethodDescriptor "()Z" = some ⟨[], some .boolean⟩) rfl rfl rfl (le_ _ _ rfl) (le_ _ _ rfl) (le_ _ _ rfl) (pc' := 507) rfl (fun T8 h8 v8 P8 Q8 => ?_)
    replace P8 := P8.more (k' := 14) (n' := 238) (le_ _ _ rfl) (le_ _ _ rfl)
    obtain ⟨rfl, rfl⟩ := Q8
    refine blk C P8 [.iload 15] (by decide +kernel) (pc' := 509) (L' := [.val (.int x0), .val (.int x1), .val (.int x2), .val (.int x3), .val (.int (x0 &&& (7 : Int32))), .val (.ref pf), .val (.ref ur), .val (.null), .val (.int (0 : Int32)), .val (.ref nm), .val (.int (0 : Int32)), .val (.int (x1 &&& (3 : Int32))), .val (.ref vl), .val (.ref kX), .val (.ref h.size), .val (.int (0 : Int32))]) (S' := [.int (0 : Int32), .int (0 : Int32)]) rfl ?_
    refine b_cmN C P8 (cd := .ne) (o := 7) (by decide +kernel) (pc' := 512) rfl (by decide : (0 : Int32) = (0 : Int32)) ?_
    refine blk C P8 [.iconst 1] (by decide +kernel) (pc' := 513) (L' := [.val (.int x0), .val (.int x1), .val (.int x2), .val (.int x3), .val (.int (x0 &&& (7 : Int32))), .val (.ref pf), .val (.ref ur), .val (.null), .val (.int (0 : Int32)), .val (.ref nm), .val (.int (0 : Int32)), .val (.int (x1 &&& (3 : Int32))), .val (.ref vl), .val (.ref kX), .val (.ref h.size), .val (.int (0 : Int32))]) (S' := [.int (1 : Int32)]) rfl ?_
    refine b_goto C P8 (o := 4) (by decide +kernel) (pc' := 517) (by decide) ?_
    exact r_int C P8 (ty := .boolean) (by simp) rfl (by decide +kernel) (le_ _ _ rfl) (le_ _ _ rfl) ⟨_, rfl, rfl⟩
set_option maxRecDepth 65536 in
set_option maxHeartbeats 4000000 in
theorem t419_n0u (l : Launch) {Z : State} {a0 : Array Value} {n0 : Nat} {h : Heap} {z : Int32} {kX uX kD uD : Addr} {dl : List Int32} (wd : Wd Z a0 z kX uX kD uD dl) (x0 x1 x2 x3 : Int32) (pf ur : Addr) (nm : Addr)  {nms : List Int32} {p : Program} {e : Env} {s : State} {m : MethodId} {args : Array Value} {below : List Frame} {meth : Method} {c : Code} {T : State} (C : Ctx Z a0 consts_1 p s m meth c "com/example/archive_packager/archivepackager/dc/AttributeIsTypePinLaw" "law" code 16 (some .boolean)) (P : Pos Z consts_1 n0 p l e room_1 s m args below meth c T h 11 214) (hu0 : (x0 &&& (7 : Int32)) = 0) (Sn : Str Z h nm nms) (hn : ¬ nms = (txt 88)) :
    Jvm.Own.Run p.tables e below (Jvm.Own.Ends Z consts_1 n0 room_1 below (Ret1 fun v h' => v = .int 1) s) T (fr m 419 [.val (.int x0), .val (.int x1), .val (.int x2), .val (.int x3), .val (.int (x0 &&& (7 : Int32))), .val (.ref pf), .val (.ref ur), .val (.null), .val (.int (0 : Int32)), .val (.ref nm), .val (.int (0 : Int32)), .val (.int (x1 &&& (3 : Int32))), .unset, .unset, .unset, .unset] []) := by
  obtain ⟨hw, hEL, Sz, hz, YX, XX, GX, SX, YD, XD, GD, SDt, hdl⟩ := id wd
  have wS : ∀ a ∈ Bundle.stringAtoms, a.before a0 Z = true := fun d hd => hw d ((by decide +kernel : ∀ d ∈ Bundle.stringAtoms, d ∈ tables_1) d hd)
  refine blk C P [.iload_n 0, .iconst 5, .ishr, .iconst 1, .iand] (by decide +kernel) (pc' := 424) (L' := [.val (.int x0), .val (.int x1), .val (.int x2), .val (.int x3), .val (.int (x0 &&& (7 : Int32))), .val (.ref pf), .val (.ref ur), .val (.null), .val (.int (0 : Int32)), .val (.ref nm), .val (.int (0 : Int32)), .val (.int (x1 &&& (3 : Int32))), .unset, .unset, .unset, .unset]) (S' := [.int ((x0 >>> ((5 : Int32) &&& 31)) &&& (1 : Int32))]) rfl ?_
  refine b_if C P (cd := .eq) (o := 8) (by decide +kernel) (pc' := 432) (by decide) (pn := 427) rfl (fun (q1 : ((x0 >>> ((5 : Int32) &&& 31)) &&& (1 : Int32)) = 0) => ?_) (fun (q1 : ¬ ((x0 >>> ((5 : Int32) &&& 31)) &&& (1 : Int32)) = 0) => ?_)
  · skip
    refine blk C P [.iload_n 3, .bipush 24, .ishr, .sipush 255, .iand, .i2c] (by decide +kernel) (pc' := 441) (L' := [.val (.int x0), .val (.int x1), .val (.int x2), .val (.int x3), .val (.int (x0 &&& (7 : Int32))), .val (.ref pf), .val (.ref ur), .val (.null), .val (.int (0 : Int32)), .val (.ref nm), .val (.int (0 : Int32)), .val (.int (x1 &&& (3 : Int32))), .unset, .unset, .unset, .unset]) (S' := [.int (c16 ((x3 >>> ((24 : Int32) &&& 31)) &&& (255 : Int32)))]) rfl ?_
    refine c_static C P (idx := 9) (y := (⟨"java/lang/String", "valueOf", "(C)Ljava/lang/String;"⟩ : MethodName)) (ybytes := jdk_42_method_139_code) (ymax := 1) (yret := (some (.object "java/lang/String"))) (yrm := ({ frames := 2, cells := 2, slots := 5, locals := 28 } : Room)) (by decide +kernel) (hw _ (List.mem_of_getElem? (i := 0) rfl)) (hw _ (List.mem_of_getElem? (i := 1) rfl)) (hw _ (List.mem_of_getElem? (i := 2) rfl)) (hw _ (List.mem_of_getElem? (i := 3) rfl)) (by decide) [.int (c16 ((x3 >>> ((24 : Int32) &&& 31)) &&& (255 : Int32)))] [] (k_valueOf l hw hEL Sz hz (c16 ((x3 >>> ((24 : Int32) &&& 31)) &&& (255 : Int32))) P.old latv) (le_ _ _ rfl) (W := 0) (le_ _ _ rfl) (by decide +kernel : parseMethodDescriptor "(C)Ljava/lang/String;" = some ⟨[.char], some (.object "java/lang/String")⟩) rfl rfl rfl (le_ _ _ rfl) (le_ _ _ rfl) (le_ _ _ rfl) (pc' := 444) rfl (fun T2 h2 v2 P2 Q2 => ?_)
    replace P2 := P2.more (k' := 13) (n' := 219) (le_ _ _ rfl) (le_ _ _ rfl)
    obtain ⟨b2, rfl, E2, S2⟩ := Q2
    refine blk C P2 [.astore 12] (by decide +kernel) (pc' := 446) (L' := [.val (.int x0), .val (.int x1), .val (.int x2), .val (.int x3), .val (.int (x0 &&& (7 : Int32))), .val (.ref pf), .val (.ref ur), .val (.null), .val (.int (0 : Int32)), .val (.ref nm), .val (.int (0 : Int32)), .val (.int (x1 &&& (3 : Int32))), .val (.ref b2), .unset, .unset, .unset]) (S' := []) rfl ?_
    exact t446_n0u l wd x0 x1 x2 x3 pf ur nm b2 C (P2.more (k' := 13) (n' := 234) (le_ _ _ rfl) (le_ _ _ rfl)) hu0 (Sn.ext E2) hn
  · skip
    refine s_ldc C P (idx := 42) (txt 86) (by decide +kernel) (hw _ (List.mem_of_getElem? (i := 86) rfl)) wS (by decide +kernel) (by decide +kernel) (by decide +kernel) (by decide +kernel) (len := 16) (by decide) (by decide) (le_ _ _ rfl) (le_ _ _ rfl) (pc' := 429) rfl (fun T3 h3 a3 P3 E3 S3 => ?_)
    replace P3 := P3.more (k' := 13) (n' := 234) (le_ _ _ rfl) (le_ _ _ rfl)
    refine b_goto C P3 (o := 15) (by decide +kernel) (pc' := 444) (by decide) ?_
    refine blk C P3 [.astore 12] (by decide +kernel) (pc' := 446) (L' := [.val (.int x0), .val (.int x1), .val (.int x2), .val (.int x3), .val (.int (x0 &&& (7 : Int32))), .val (.ref pf), .val (.ref ur), .val (.null), .val (.int (0 : Int32)), .val (.ref nm), .val (.int (0 : Int32)), .val (.int (x1 &&& (3 : Int32))), .val (.ref a3), .unset, .unset, .unset]) (S' := []) rfl ?_
    exact t446_n0u l wd x0 x1 x2 x3 pf ur nm a3 C (P3.more (k' := 13) (n' := 234) (le_ _ _ rfl) (le_ _ _ rfl)) hu0 (Sn.ext E3) hn
set_option maxRecDepth 65536 in
set_option maxHeartbeats 4000000 in
theorem t446_n0c (l : Launch) {Z : State} {a0 : Array Value} {n0 : Nat} {h : Heap} {z : Int32} {kX uX kD uD : Addr} {dl : List Int32} (wd : Wd Z a0 z kX uX kD uD dl) (x0 x1 x2 x3 : Int32) (pf ur : Addr) (nm vl : Addr) (c0 c1 c2 c3 : Int32)  {nms : List Int32} {p : Program} {e : Env} {s : State} {m : MethodId} {args : Array Value} {below : List Frame} {meth : Method} {c : Code} {T : State} (C : Ctx Z a0 consts_1 p s m meth c "com/example/archive_packager/archivepackager/dc/AttributeIsTypePinLaw" "law" code 16 (some .boolean)) (P : Pos Z consts_1 n0 p l e room_1 s m args below meth c T h 13 234) (hu0 : (x0 &&& (7 : Int32)) = 0) (Sn : Str Z h nm nms) (hn : ¬ nms = (txt 88)) :
    Jvm.Own.Run p.tables e below (Jvm.Own.Ends Z consts_1 n0 room_1 below (Ret1 fun v h' => v = .int 1) s) T (fr m 446 [.val (.int x0), .val (.int x1), .val (.int x2), .val (.int x3), .val (.int (x0 &&& (7 : Int32))), .val (.ref pf), .val (.ref ur), .val (.null), .val (.int (0 : Int32)), .val (.ref nm), .val (.int (0 : Int32)), .val (.int (x1 &&& (3 : Int32))), .val (.ref vl), .val (.int c1), .val (.int c2), .val (.int c3)] []) := by
  obtain ⟨hw, hEL, Sz, hz, YX, XX, GX, SX, YD, XD, GD, SDt, hdl⟩ := id wd
  refine blk C P [.iload_n 0, .iconst 4, .ishr, .iconst 1, .iand] (by decide +kernel) (pc' := 451) (L' := [.val (.int x0), .val (.int x1), .val (.int x2), .val (.int x3), .val (.int (x0 &&& (7 : Int32))), .val (.ref pf), .val (.ref ur), .val (.null), .val (.int (0 : Int32)), .val (.ref nm), .val (.int (0 : Int32)), .val (.int (x1 &&& (3 : Int32))), .val (.ref vl), .val (.int c1), .val (.int c2), .val (.int c3)]) (S' := [.int ((x0 >>> ((4 : Int32) &&& 31)) &&& (1 : Int32))]) rfl ?_
  refine b_if C P (cd := .eq) (o := 9) (by decide +kernel) (pc' := 460) (by decide) (pn := 454) rfl (fun (q1 : ((x0 >>> ((4 : Int32) &&& 31)) &&& (1 : Int32)) = 0) => ?_) (fun (q1 : ¬ ((x0 >>> ((4 : Int32) &&& 31)) &&& (1 : Int32)) = 0) => ?_)
  · skip
    refine blk C P [.aconst_null, .astore 13] (by decide +kernel) (pc' := 463) (L' := [.val (.int x0), .val (.int x1), .val (.int x2), .val (.int x3), .val (.int (x0 &&& (7 : Int32))), .val (.ref pf), .val (.ref ur), .val (.null), .val (.int (0 : Int32)), .val (.ref nm), .val (.int (0 : Int32)), .val (.int (x1 &&& (3 : Int32))), .val (.ref vl), .val (.null), .val (.int c2), .val (.int c3)]) (S' := []) rfl ?_
    refine s_new C P (idx := 50) (by decide +kernel) (hw _ (List.mem_of_getElem? (i := 30) rfl)) (hw _ (List.mem_of_getElem? (i := 31) rfl)) (hw _ (List.mem_of_getElem? (i := 32) rfl)) (le_ _ _ rfl) (le_ _ _ rfl) (pc' := 466) rfl (fun T2 h2 P2 E2 B2 => ?_)
    replace P2 := P2.more (k' := 14) (n' := 238) (le_ _ _ rfl) (le_ _ _ rfl)
    refine blk C P2 [.dup, .aload 7, .aload 9, .aload 12, .aload 13] (by decide +kernel) (pc' := 475) (L' := [.val (.int x0), .val (.int x1), .val (.int x2), .val (.int x3), .val (.int (x0 &&& (7 : Int32))), .val (.ref pf), .val (.ref ur), .val (.null), .val (.int (0 : Int32)), .val (.ref nm), .val (.int (0 : Int32)), .val (.int (x1 &&& (3 : Int32))), .val (.ref vl), .val (.null), .val (.int c2), .val (.int c3)]) (S' := [.null, .ref vl, .ref nm, .null, .ref h.size, .ref h.size]) rfl ?_
    refine c_special C P2 (idx := 52) (y := (⟨"com/example/archive_packager/archivepackager/dc/DcElement$Attribute", "<init>", "(Lcom/example/archive_packager/archivepackager/xml/Namespace;Ljava/lang/String;Ljava/lang/String;Lcom/example/archive_packager/archivepackager/xml/Namespace;)V"⟩ : MethodName)) (ybytes := prog_13_method_1_code) (ymax := 5) (yrm := ({ frames := 2, cells := 0, slots := 0, locals := 24 } : Room)) rfl (by decide +kernel) (hw _ (List.mem_of_getElem? (i := 33) rfl)) (hw _ (List.mem_of_getElem? (i := 34) rfl)) (hw _ (List.mem_of_getElem? (i := 32) rfl)) (hw _ (List.mem_of_getElem? (i := 35) rfl)) (by decide) [.null, .ref nm, .ref vl, .null] [.ref h.size] (k_att_nn l wd (h.size) nm vl P2.old B2) (le_ _ _ rfl) (W := 1) (le_ _ _ rfl) (by decide +kernel : parseMethodDescriptor "(Lcom/example/archive_packager/archivepackager/xml/Namespace;Ljava/lang/String;Ljava/lang/String;Lcom/example/archive_packager/archivepackager/xml/Namespace;)V" = some ⟨[(.object "com/example/archive_packager/archivepackager/xml/Namespace"), (.object "java/lang/String"), (.object "java/lang/String"), (.object "com/example/archive_packager/archivepackager/xml/Namespace")], none⟩) rfl rfl rfl (le_ _ _ rfl) (le_ _ _ rfl) (le_ _ _ rfl) (pc' := 478) rfl (fun T3 h3 P3 Q3 => ?_)
    replace P3 := P3.more (k' := 14) (n' := 238) (le_ _ _ rfl) (le_ _ _ rfl)
    obtain ⟨K3, A3, F3_0, F3_1⟩ := Q3
    refine blk C P3 [.astore 14, .iload 4] (by decide +kernel) (pc' := 482) (L' := [.val (.int x0), .val (.int x1), .val (.int x2), .val (.int x3), .val (.int (x0 &&& (7 : Int32))), .val (.ref pf), .val (.ref ur), .val (.null), .val (.int (0 : Int32)), .val (.ref nm), .val (.int (0 : Int32)), .val (.int (x1 &&& (3 : Int32))), .val (.ref vl), .val (.null), .val (.ref h.size), .val (.int c3)]) (S' := [.int (x0 &&& (7 : Int32))]) rfl ?_
    refine b_ifY C P3 (cd := .eq) (o := 17) (by decide +kernel) (pc' := 499) (by decide) hu0 ?_
    refine blk C P3 [.iconst 0, .istore 15, .aload 14] (by decide +kernel) (pc' := 504) (L' := [.val (.int x0), .val (.int x1), .val (.int x2), .val (.int x3), .val (.int (x0 &&& (7 : Int32))), .val (.ref pf), .val (.ref ur), .val (.null), .val (.int (0 : Int32)), .val (.ref nm), .val (.int (0 : Int32)), .val (.int (x1 &&& (3 : Int32))), .val (.ref vl), .val (.null), .val (.ref h.size), .val (.int (0 : Int32))]) (S' := [.ref h.size]) rfl ?_
    refine c_virtual C P3 (idx := 55) (y := (⟨"com/example/archive_packager/archivepackager/dc/DcElement$Attribute", "isType", "()Z"⟩ : MethodName)) (K0 := "com/example/archive_packager/archivepackager/dc/DcElement$Attribute") (ybytes := prog_13_method_2_code) (ymax := 1) (yret := (some .boolean)) (yrm := ({ frames := 0, cells := 0, slots := 0, locals := 0 } : Room)) (by decide +kernel) (hw _ (List.mem_of_getElem? (i := 50) rfl)) (hw _ (List.mem_of_getElem? (i := 51) rfl)) (hw _ (List.mem_of_getElem? (i := 53) rfl)) (hw _ (List.mem_of_getElem? (i := 52) rfl)) (hw _ (List.mem_of_getElem? (i := 32) rfl)) (hw _ (List.mem_of_getElem? (i := 54) rfl)) (by decide) A3 [] [] (k_is_n l wd (h.size) P3.old F3_0) (le_ _ _ rfl) (W := 0) (le_ _ _ rfl) (by decide +kernel : parseMethodDescriptor "()Z" = some ⟨[], some .boolean⟩) rfl rfl rfl (le_ _ _ rfl) (le_ _ _ rfl) (le_ _ _ rfl) (pc' := 507) rfl (fun T4 h4 v4 P4 Q4 => ?_)
    replace P4 := P4.more (k' := 14) (n' := 238) (le_ _ _ rfl) (le_ _ _ rfl)
    obtain ⟨rfl, rfl⟩ := Q4
    refine blk C P4 [.iload 15] (by decide +kernel) (pc' := 509) (L' := [.val (.int x0), .val (.int x1), .val (.int x2), .val (.int x3), .val (.int (x0 &&& (7 : Int32))), .val (.ref pf), .val (.ref ur), .val (.null), .val (.int (0 : Int32)), .val (.ref nm), .val (.int (0 : Int32)), .val (.int (x1 &&& (3 : Int32))), .val (.ref vl), .val (.null), .val (.ref h.size), .val (.int (0 : Int32))]) (S' := [.int (0 : Int32), .int (0 : Int32)]) rfl ?_
    refine b_cmN C P4 (cd := .ne) (o := 7) (by decide +kernel) (pc' := 512) rfl (by decide : (0 : Int32) = (0 : Int32)) ?_
    refine blk C P4 [.iconst 1] (by decide +kernel) (pc' := 513) (L' := [.val (.int x0), .val (.int x1), .val (.int x2), .val (.int x3), .val (.int (x0 &&& (7 : Int32))), .val (.ref pf), .val (.ref ur), .val (.null), .val (.int (0 : Int32)), .val (.ref nm), .val (.int (0 : Int32)), .val (.int (x1 &&& (3 : Int32))), .val (.ref vl), .val (.null), .val (.ref h.size), .val (.int (0 : Int32))]) (S' := [.int (1 : Int32)]) rfl ?_
    refine b_goto C P4 (o := 4) (by decide +kernel) (pc' := 517) (by decide) ?_
    exact r_int C P4 (ty := .boolean) (by simp) rfl (by decide +kernel) (le_ _ _ rfl) (le_ _ _ rfl) ⟨_, rfl, rfl⟩
  · skip
    refine s_gets C P (idx := 15) (by decide +kernel) (hw _ (List.mem_of_getElem? (i := 87) rfl)) YX (pc' := 457) rfl (fun T5 P5 => ?_)
    refine b_goto C P5 (o := 4) (by decide +kernel) (pc' := 461) (by decide) ?_
    refine blk C P5 [.astore 13] (by decide +kernel) (pc' := 463) (L' := [.val (.int x0), .val (.int x1), .val (.int x2), .val (.int x3), .val (.int (x0 &&& (7 : Int32))), .val (.ref pf), .val (.ref ur), .val (.null), .val (.int (0 : Int32)), .val (.ref nm), .val (.int (0 : Int32)), .val (.int (x1 &&& (3 : Int32))), .val (.ref vl), .val (.ref kX), .val (.int c2), .val (.int c3)]) (S' := []) rfl ?_
    refine s_new C P5 (idx := 50) (by decide +kernel) (hw _ (List.mem_of_getElem? (i := 30) rfl)) (hw _ (List.mem_of_getElem? (i := 31) rfl)) (hw _ (List.mem_of_getElem? (i := 32) rfl)) (le_ _ _ rfl) (le_ _ _ rfl) (pc' := 466) rfl (fun T6 h6 P6 E6 B6 => ?_)
    replace P6 := P6.more (k' := 14) (n' := 238) (le_ _ _ rfl) (le_ _ _ rfl)
    refine blk C P6 [.dup, .aload 7, .aload 9, .aload 12, .aload 13] (by decide +kernel) (pc' := 475) (L' := [.val (.int x0), .val (.int x1), .val (.int x2), .val (.int x3), .val (.int (x0 &&& (7 : Int32))), .val (.ref pf), .val (.ref ur), .val (.null), .val (.int (0 : Int32)), .val (.ref nm), .val (.int (0 : Int32)), .val (.int (x1 &&& (3 : Int32))), .val (.ref vl), .val (.ref kX), .val (.int c2), .val (.int c3)]) (S' := [.ref kX, .ref vl, .ref nm, .null, .ref h.size, .ref h.size]) rfl ?_
    refine c_special C P6 (idx := 52) (y := (⟨"com/example/archive_packager/archivepackager/dc/DcElement$Attribute", "<init>", "(Lcom/example/archive_packager/archivepackager/xml/Namespace;Ljava/lang/String;Ljava/lang/String;Lcom/example/archive_packager/archivepackager/xml/Namespace;)V"⟩ : MethodName)) (ybytes := prog_13_method_1_code) (ymax := 5) (yrm := ({ frames := 2, cells := 0, slots := 0, locals := 24 } : Room)) rfl (by decide +kernel) (hw _ (List.mem_of_getElem? (i := 33) rfl)) (hw _ (List.mem_of_getElem? (i := 34) rfl)) (hw _ (List.mem_of_getElem? (i := 32) rfl)) (hw _ (List.mem_of_getElem? (i := 35) rfl)) (by decide) [.null, .ref nm, .ref vl, .ref kX] [.ref h.size] (k_att_nr l wd (h.size) nm vl kX P6.old B6) (le_ _ _ rfl) (W := 1) (le_ _ _ rfl) (by decide +kernel : parseMethodDescriptor "(Lcom/example/archive_packager/archivepackager/xml/Namespace;Ljava/lang/String;Ljava/lang/String;Lcom/example/archive_packager/archivepackager/xml/Namespace;)V" = some ⟨[(.object "com/example/archive_packager/archivepackager/xml/Namespace"), (.object "java/lang/String"), (.object "java/lang/String"), (.object "com/example/archive_packager/archivepackager/xml/Namespace")], none⟩) rfl rfl rfl (le_ _ _ rfl) (le_ _ _ rfl) (le_ _ _ rfl) (pc' := 478) rfl (fun T7 h7 P7 Q7 => ?_)
    replace P7 := P7.more (k' := 14) (n' := 238) (le_ _ _ rfl) (le_ _ _ rfl)
    obtain ⟨K7, A7, F7_0, F7_1⟩ := Q7
    refine blk C P7 [.astore 14, .iload 4] (by decide +kernel) (pc' := 482) (L' := [.val (.int x0), .val (.int x1), .val (.int x2), .val (.int x3), .val (.int (x0 &&& (7 : Int32))), .val (.ref pf), .val (.ref ur), .val (.null), .val (.int (0 : Int32)), .val (.ref nm), .val (.int (0 : Int32)), .val (.int (x1 &&& (3 : Int32))), .val (.ref vl), .val (.ref kX), .val (.ref h.size), .val (.int c3)]) (S' := [.int (x0 &&& (7 : Int32))]) rfl ?_
    refine b_ifY C P7 (cd := .eq) (o := 17) (by decide +kernel) (pc' := 499) (by decide) hu0 ?_
    refine blk C P7 [.iconst 0, .istore 15, .aload 14] (by decide +kernel) (pc' := 504) (L' := [.val (.int x0), .val (.int x1), .val (.int x2), .val (.int x3), .val (.int (x0 &&& (7 : Int32))), .val (.ref pf), .val (.ref ur), .val (.null), .val (.int (0 : Int32)), .val (.ref nm), .val (.int (0 : Int32)), .val (.int (x1 &&& (3 : Int32))), .val (.ref vl), .val (.ref kX), .val (.ref h.size), .val (.int (0 : Int32))]) (S' := [.ref h.size]) rfl ?_
    refine c_virtual C P7 (idx := 55) (y := (⟨"com/example/archive_packager/archivepackager/dc/DcElement$Attribute", "isType", "()Z"⟩ : MethodName)) (K0 := "com/example/archive_packager/archivepackager/dc/DcElement$Attribute") (ybytes := prog_13_method_2_code) (ymax := 1) (yret := (some .boolean)) (yrm := ({ frames := 0, cells := 0, slots := 0, locals := 0 } : Room)) (by decide +kernel) (hw _ (List.mem_of_getElem? (i := 50) rfl)) (hw _ (List.mem_of_getElem? (i := 51) rfl)) (hw _ (List.mem_of_getElem? (i := 53) rfl)) (hw _ (List.mem_of_getElem? (i := 52) rfl)) (hw _ (List.mem_of_getElem? (i := 32) rfl)) (hw _ (List.mem_of_getElem? (i := 54) rfl)) (by decide) A7 [] [] (k_is_n l wd (h.size) P7.old F7_0) (le_ _ _ rfl) (W := 0) (le_ _ _ rfl) (by decide +kernel : parseMethodDescriptor "()Z" = some ⟨[], some .boolean⟩) rfl rfl rfl (le_ _ _ rfl) (le_ _ _ rfl) (le_ _ _ rfl) (pc' := 507) rfl (fun T8 h8 v8 P8 Q8 => ?_)
    replace P8 := P8.more (k' := 14) (n' := 238) (le_ _ _ rfl) (le_ _ _ rfl)
    obtain ⟨rfl, rfl⟩ := Q8
    refine blk C P8 [.iload 15] (by decide +kernel) (pc' := 509) (L' := [.val (.int x0), .val (.int x1), .val (.int x2), .val (.int x3), .val (.int (x0 &&& (7 : Int32))), .val (.ref pf), .val (.ref ur), .val (.null), .val (.int (0 : Int32)), .val (.ref nm), .val (.int (0 : Int32)), .val (.int (x1 &&& (3 : Int32))), .val (.ref vl), .val (.ref kX), .val (.ref h.size), .val (.int (0 : Int32))]) (S' := [.int (0 : Int32), .int (0 : Int32)]) rfl ?_
    refine b_cmN C P8 (cd := .ne) (o := 7) (by decide +kernel) (pc' := 512) rfl (by decide : (0 : Int32) = (0 : Int32)) ?_
    refine blk C P8 [.iconst 1] (by decide +kernel) (pc' := 513) (L' := [.val (.int x0), .val (.int x1), .val (.int x2), .val (.int x3), .val (.int (x0 &&& (7 : Int32))), .val (.ref pf), .val (.ref ur), .val (.null), .val (.int (0 : Int32)), .val (.ref nm), .val (.int (0 : Int32)), .val (.int (x1 &&& (3 : Int32))), .val (.ref vl), .val (.ref kX), .val (.ref h.size), .val (.int (0 : Int32))]) (S' := [.int (1 : Int32)]) rfl ?_
    refine b_goto C P8 (o := 4) (by decide +kernel) (pc' := 517) (by decide) ?_
    exact r_int C P8 (ty := .boolean) (by simp) rfl (by decide +kernel) (le_ _ _ rfl) (le_ _ _ rfl) ⟨_, rfl, rfl⟩
set_option maxRecDepth 65536 in
set_option maxHeartbeats 4000000 in
theorem t419_n0c (l : Launch) {Z : State} {a0 : Array Value} {n0 : Nat} {h : Heap} {z : Int32} {kX uX kD uD : Addr} {dl : List Int32} (wd : Wd Z a0 z kX uX kD uD dl) (x0 x1 x2 x3 : Int32) (pf ur : Addr) (nm : Addr) (c0 c1 c2 c3 : Int32)  {nms : List Int32} {p : Program} {e : Env} {s : State} {m : MethodId} {args : Array Value} {below : List Frame} {meth : Method} {c : Code} {T : State} (C : Ctx Z a0 consts_1 p s m meth c "com/example/archive_packager/archivepackager/dc/AttributeIsTypePinLaw" "law" code 16 (some .boolean)) (P : Pos Z consts_1 n0 p l e room_1 s m args below meth c T h 11 214) (hu0 : (x0 &&& (7 : Int32)) = 0) (Sn : Str Z h nm nms) (hn : ¬ nms = (txt 88)) :
    Jvm.Own.Run p.tables e below (Jvm.Own.Ends Z consts_1 n0 room_1 below (Ret1 fun v h' => v = .int 1) s) T (fr m 419 [.val (.int x0), .val (.int x1), .val (.int x2), .val (.int x3), .val (.int (x0 &&& (7 : Int32))), .val (.ref pf), .val (.ref ur), .val (.null), .val (.int (0 : Int32)), .val (.ref nm), .val (.int (0 : Int32)), .val (.int (x1 &&& (3 : Int32))), .val (.int c0), .val (.int c1), .val (.int c2), .val (.int c3)] []) := by
  obtain ⟨hw, hEL, Sz, hz, YX, XX, GX, SX, YD, XD, GD, SDt, hdl⟩ := id wd
  have wS : ∀ a ∈ Bundle.stringAtoms, a.before a0 Z = true := fun d hd => hw d ((by decide +kernel : ∀ d ∈ Bundle.stringAtoms, d ∈ tables_1) d hd)
  refine blk C P [.iload_n 0, .iconst 5, .ishr, .iconst 1, .iand] (by decide +kernel) (pc' := 424) (L' := [.val (.int x0), .val (.int x1), .val (.int x2), .val (.int x3), .val (.int (x0 &&& (7 : Int32))), .val (.ref pf), .val (.ref ur), .val (.null), .val (.int (0 : Int32)), .val (.ref nm), .val (.int (0 : Int32)), .val (.int (x1 &&& (3 : Int32))), .val (.int c0), .val (.int c1), .val (.int c2), .val (.int c3)]) (S' := [.int ((x0 >>> ((5 : Int32) &&& 31)) &&& (1 : Int32))]) rfl ?_
  refine b_if C P (cd := .eq) (o := 8) (by decide +kernel) (pc' := 432) (by decide) (pn := 427) rfl (fun (q1 : ((x0 >>> ((5 : Int32) &&& 31)) &&& (1 : Int32)) = 0) => ?_) (fun (q1 : ¬ ((x0 >>> ((5 : Int32) &&& 31)) &&& (1 : Int32)) = 0) => ?_)
  · skip
    refine blk C P [.iload_n 3, .bipush 24, .ishr, .sipush 255, .iand, .i2c] (by decide +kernel) (pc' := 441) (L' := [.val (.int x0), .val (.int x1), .val (.int x2), .val (.int x3), .val (.int (x0 &&& (7 : Int32))), .val (.ref pf), .val (.ref ur), .val (.null), .val (.int (0 : Int32)), .val (.ref nm), .val (.int (0 : Int32)), .val (.int (x1 &&& (3 : Int32))), .val (.int c0), .val (.int c1), .val (.int c2), .val (.int c3)]) (S' := [.int (c16 ((x3 >>> ((24 : Int32) &&& 31)) &&& (255 : Int32)))]) rfl ?_
    refine c_static C P (idx := 9) (y := (⟨"java/lang/String", "valueOf", "(C)Ljava/lang/String;"⟩ : MethodName)) (ybytes := jdk_42_method_139_code) (ymax := 1) (yret := (some (.object "java/lang/String"))) (yrm := ({ frames := 2, cells := 2, slots := 5, locals := 28 } : Room)) (by decide +kernel) (hw _ (List.mem_of_getElem? (i := 0) rfl)) (hw _ (List.mem_of_getElem? (i := 1) rfl)) (hw _ (List.mem_of_getElem? (i := 2) rfl)) (hw _ (List.mem_of_getElem? (i := 3) rfl)) (by decide) [.int (c16 ((x3 >>> ((24 : Int32) &&& 31)) &&& (255 : Int32)))] [] (k_valueOf l hw hEL Sz hz (c16 ((x3 >>> ((24 : Int32) &&& 31)) &&& (255 : Int32))) P.old latv) (le_ _ _ rfl) (W := 0) (le_ _ _ rfl) (by decide +kernel : parseMethodDescriptor "(C)Ljava/lang/String;" = some ⟨[.char], some (.object "java/lang/String")⟩) rfl rfl rfl (le_ _ _ rfl) (le_ _ _ rfl) (le_ _ _ rfl) (pc' := 444) rfl (fun T2 h2 v2 P2 Q2 => ?_)
    replace P2 := P2.more (k' := 13) (n' := 219) (le_ _ _ rfl) (le_ _ _ rfl)
    obtain ⟨b2, rfl, E2, S2⟩ := Q2
    refine blk C P2 [.astore 12] (by decide +kernel) (pc' := 446) (L' := [.val (.int x0), .val (.int x1), .val (.int x2), .val (.int x3), .val (.int (x0 &&& (7 : Int32))), .val (.ref pf), .val (.ref ur), .val (.null), .val (.int (0 : Int32)), .val (.ref nm), .val (.int (0 : Int32)), .val (.int (x1 &&& (3 : Int32))), .val (.ref b2), .val (.int c1), .val (.int c2), .val (.int c3)]) (S' := []) rfl ?_
    exact t446_n0c l wd x0 x1 x2 x3 pf ur nm b2 c0 c1 c2 c3 C (P2.more (k' := 13) (n' := 234) (le_ _ _ rfl) (le_ _ _ rfl)) hu0 (Sn.ext E2) hn
  · skip
    refine s_ldc C P (idx := 42) (txt 86) (by decide +kernel) (hw _ (List.mem_of_getElem? (i := 86) rfl)) wS (by decide +kernel) (by decide +kernel) (by decide +kernel) (by decide +kernel) (len := 16) (by decide) (by decide) (le_ _ _ rfl) (le_ _ _ rfl) (pc' := 429) rfl (fun T3 h3 a3 P3 E3 S3 => ?_)
    replace P3 := P3.more (k' := 13) (n' := 234) (le_ _ _ rfl) (le_ _ _ rfl)
    refine b_goto C P3 (o := 15) (by decide +kernel) (pc' := 444) (by decide) ?_
    refine blk C P3 [.astore 12] (by decide +kernel) (pc' := 446) (L' := [.val (.int x0), .val (.int x1), .val (.int x2), .val (.int x3), .val (.int (x0 &&& (7 : Int32))), .val (.ref pf), .val (.ref ur), .val (.null), .val (.int (0 : Int32)), .val (.ref nm), .val (.int (0 : Int32)), .val (.int (x1 &&& (3 : Int32))), .val (.ref a3), .val (.int c1), .val (.int c2), .val (.int c3)]) (S' := []) rfl ?_
    exact t446_n0c l wd x0 x1 x2 x3 pf ur nm a3 c0 c1 c2 c3 C (P3.more (k' := 13) (n' := 234) (le_ _ _ rfl) (le_ _ _ rfl)) hu0 (Sn.ext E3) hn
set_option maxRecDepth 65536 in
set_option maxHeartbeats 4000000 in
theorem t313_n (l : Launch) {Z : State} {a0 : Array Value} {n0 : Nat} {h : Heap} {z : Int32} {kX uX kD uD : Addr} {dl : List Int32} (wd : Wd Z a0 z kX uX kD uD dl) (x0 x1 x2 x3 : Int32) (pf ur : Addr) (c0 c1 c2 c3 : Int32)  {p : Program} {e : Env} {s : State} {m : MethodId} {args : Array Value} {below : List Frame} {meth : Method} {c : Code} {T : State} (C : Ctx Z a0 consts_1 p s m meth c "com/example/archive_packager/archivepackager/dc/AttributeIsTypePinLaw" "law" code 16 (some .boolean)) (P : Pos Z consts_1 n0 p l e room_1 s m args below meth c T h 7 190) (hu0 : (x0 &&& (7 : Int32)) = 0) (l0 : ¬ c0 < 0 ∧ ¬ (255 : Int32) < c0) (i0 : c16 c0 = c0) (l1 : ¬ c1 < 0 ∧ ¬ (255 : Int32) < c1) (i1 : c16 c1 = c1) (l2 : ¬ c2 < 0 ∧ ¬ (255 : Int32) < c2) (i2 : c16 c2 = c2) (l3 : ¬ c3 < 0 ∧ ¬ (255 : Int32) < c3) (i3 : c16 c3 = c3) :
    Jvm.Own.Run p.tables e below (Jvm.Own.Ends Z consts_1 n0 room_1 below (Ret1 fun v h' => v = .int 1) s) T (fr m 313 [.val (.int x0), .val (.int x1), .val (.int x2), .val (.int x3), .val (.int (x0 &&& (7 : Int32))), .val (.ref pf), .val (.ref ur), .val (.null), .val (.int (0 : Int32)), .unset, .unset, .val (.int (x1 &&& (3 : Int32))), .val (.int c0), .val (.int c1), .val (.int c2), .val (.int c3)] []) := by
  obtain ⟨hw, hEL, Sz, hz, YX, XX, GX, SX, YD, XD, GD, SDt, hdl⟩ := id wd
  have wS : ∀ a ∈ Bundle.stringAtoms, a.before a0 Z = true := fun d hd => hw d ((by decide +kernel : ∀ d ∈ Bundle.stringAtoms, d ∈ tables_1) d hd)
  refine s_new C P (idx := 10) (by decide +kernel) (hw _ (List.mem_of_getElem? (i := 90) rfl)) (hw _ (List.mem_of_getElem? (i := 10) rfl)) (hw _ (List.mem_of_getElem? (i := 2) rfl)) (le_ _ _ rfl) (le_ _ _ rfl) (pc' := 316) rfl (fun T1 h1 P1 E1 B1 => ?_)
  replace P1 := P1.more (k' := 8) (n' := 194) (le_ _ _ rfl) (le_ _ _ rfl)
  refine blk C P1 [.dup, .iconst 4] (by decide +kernel) (pc' := 318) (L' := [.val (.int x0), .val (.int x1), .val (.int x2), .val (.int x3), .val (.int (x0 &&& (7 : Int32))), .val (.ref pf), .val (.ref ur), .val (.null), .val (.int (0 : Int32)), .unset, .unset, .val (.int (x1 &&& (3 : Int32))), .val (.int c0), .val (.int c1), .val (.int c2), .val (.int c3)]) (S' := [.int (4 : Int32), .ref h.size, .ref h.size]) rfl ?_
  refine s_newC C P1 4 (by decide +kernel) (hw _ (List.mem_of_getElem? (i := 91) rfl)) rfl (by decide) (le_ _ _ rfl) (le_ _ _ rfl) (pc' := 320) rfl (fun T2 h2 P2 E2 V2 => ?_)
  replace P2 := P2.more (k' := 9) (n' := 198) (le_ _ _ rfl) (le_ _ _ rfl)
  refine blk C P2 [.dup, .iconst 0, .iload 12] (by decide +kernel) (pc' := 324) (L' := [.val (.int x0), .val (.int x1), .val (.int x2), .val (.int x3), .val (.int (x0 &&& (7 : Int32))), .val (.ref pf), .val (.ref ur), .val (.null), .val (.int (0 : Int32)), .unset, .unset, .val (.int (x1 &&& (3 : Int32))), .val (.int c0), .val (.int c1), .val (.int c2), .val (.int c3)]) (S' := [.int c0, .int (0 : Int32), .ref h1.size, .ref h1.size, .ref h.size, .ref h.size]) rfl ?_
  refine s_stC C P2 0 (by decide +kernel) V2 rfl (Nat.lt_of_lt_of_le (Nat.lt_succ_self _) (le_ _ _ rfl)) i0 (pc' := 325) rfl (fun T3 h3 P3 K3 V3 => ?_)
  replace V3 : Chs Z n0 h3 (h1.size) [c0, (0 : Int32), (0 : Int32), (0 : Int32)] := V3
  refine blk C P3 [.dup, .iconst 1, .iload 13] (by decide +kernel) (pc' := 329) (L' := [.val (.int x0), .val (.int x1), .val (.int x2), .val (.int x3), .val (.int (x0 &&& (7 : Int32))), .val (.ref pf), .val (.ref ur), .val (.null), .val (.int (0 : Int32)), .unset, .unset, .val (.int (x1 &&& (3 : Int32))), .val (.int c0), .val (.int c1), .val (.int c2), .val (.int c3)]) (S' := [.int c1, .int (1 : Int32), .ref h1.size, .ref h1.size, .ref h.size, .ref h.size]) rfl ?_
  refine s_stC C P3 1 (by decide +kernel) V3 rfl (Nat.lt_of_lt_of_le (Nat.lt_succ_self _) (le_ _ _ rfl)) i1 (pc' := 330) rfl (fun T4 h4 P4 K4 V4 => ?_)
  replace V4 : Chs Z n0 h4 (h1.size) [c0, c1, (0 : Int32), (0 : Int32)] := V4
  refine blk C P4 [.dup, .iconst 2, .iload 14] (by decide +kernel) (pc' := 334) (L' := [.val (.int x0), .val (.int x1), .val (.int x2), .val (.int x3), .val (.int (x0 &&& (7 : Int32))), .val (.ref pf), .val (.ref ur), .val (.null), .val (.int (0 : Int32)), .unset, .unset, .val (.int (x1 &&& (3 : Int32))), .val (.int c0), .val (.int c1), .val (.int c2), .val (.int c3)]) (S' := [.int c2, .int (2 : Int32), .ref h1.size, .ref h1.size, .ref h.size, .ref h.size]) rfl ?_
  refine s_stC C P4 2 (by decide +kernel) V4 rfl (Nat.lt_of_lt_of_le (Nat.lt_succ_self _) (le_ _ _ rfl)) i2 (pc' := 335) rfl (fun T5 h5 P5 K5 V5 => ?_)
  replace V5 : Chs Z n0 h5 (h1.size) [c0, c1, c2, (0 : Int32)] := V5
  refine blk C P5 [.dup, .iconst 3, .iload 15] (by decide +kernel) (pc' := 339) (L' := [.val (.int x0), .val (.int x1), .val (.int x2), .val (.int x3), .val (.int (x0 &&& (7 : Int32))), .val (.ref pf), .val (.ref ur), .val (.null), .val (.int (0 : Int32)), .unset, .unset, .val (.int (x1 &&& (3 : Int32))), .val (.int c0), .val (.int c1), .val (.int c2), .val (.int c3)]) (S' := [.int c3, .int (3 : Int32), .ref h1.size, .ref h1.size, .ref h.size, .ref h.size]) rfl ?_
  refine s_stC C P5 3 (by decide +kernel) V5 rfl (Nat.lt_of_lt_of_le (Nat.lt_succ_self _) (le_ _ _ rfl)) i3 (pc' := 340) rfl (fun T6 h6 P6 K6 V6 => ?_)
  replace V6 : Chs Z n0 h6 (h1.size) [c0, c1, c2, c3] := V6
  have B8 := (B1.ext (exK (exK (exK (exK E2 K3 (Nat.le_refl _)) K4 (Nat.le_refl _)) K5 (Nat.le_refl _)) K6 (Nat.le_refl _)))
  refine c_newStr C P6 hw Sz hz (idx := 31) (cs := [c0, c1, c2, c3]) (rest := [.ref h.size]) (W := 1) (by decide +kernel) (hw _ (List.mem_of_getElem? (i := 92) rfl)) (hw _ (List.mem_of_getElem? (i := 93) rfl)) B8 V6 (latS l0 (latS l1 (latS l2 (latS l3 lat0)))) (by simp) rfl (le_ _ _ rfl) (le_ _ _ rfl) (le_ _ _ rfl) (le_ _ _ rfl) (le_ _ _ rfl) (pc' := 343) rfl (fun T7 h7 P7 K7 S7 => ?_)
  replace P7 := P7.more (k' := 11) (n' := 206) (le_ _ _ rfl) (le_ _ _ rfl)
  refine blk C P7 [.astore 9, .iload 12, .bipush 116] (by decide +kernel) (pc' := 349) (L' := [.val (.int x0), .val (.int x1), .val (.int x2), .val (.int x3), .val (.int (x0 &&& (7 : Int32))), .val (.ref pf), .val (.ref ur), .val (.null), .val (.int (0 : Int32)), .val (.ref h.size), .unset, .val (.int (x1 &&& (3 : Int32))), .val (.int c0), .val (.int c1), .val (.int c2), .val (.int c3)]) (S' := [.int (116 : Int32), .int c0]) rfl ?_
  refine b_cm C P7 (cd := .ne) (o := 28) (by decide +kernel) (pc' := 377) (by decide) (pn := 352) rfl (fun (q9 : ¬ c0 = (116 : Int32)) => ?_) (fun (q9 : c0 = (116 : Int32)) => ?_)
  · skip
    refine blk C P7 [.iconst 0, .istore 10] (by decide +kernel) (pc' := 380) (L' := [.val (.int x0), .val (.int x1), .val (.int x2), .val (.int x3), .val (.int (x0 &&& (7 : Int32))), .val (.ref pf), .val (.ref ur), .val (.null), .val (.int (0 : Int32)), .val (.ref h.size), .val (.int (0 : Int32)), .val (.int (x1 &&& (3 : Int32))), .val (.int c0), .val (.int c1), .val (.int c2), .val (.int c3)]) (S' := []) rfl ?_
    refine b_goto C P7 (o := 39) (by decide +kernel) (pc' := 419) (by decide) ?_
    exact t419_n0c l wd x0 x1 x2 x3 pf ur (h.size) c0 c1 c2 c3 C (P7.more (k' := 11) (n' := 214) (le_ _ _ rfl) (le_ _ _ rfl)) hu0 S7 (fun z => q9 (ne4.mp (z.trans (by decide +kernel : (txt 88) = [(116 : Int32), 121, 112, 101]))).1)
  · skip
    refine blk C P7 [.iload 13, .bipush 121] (by decide +kernel) (pc' := 356) (L' := [.val (.int x0), .val (.int x1), .val (.int x2), .val (.int x3), .val (.int (x0 &&& (7 : Int32))), .val (.ref pf), .val (.ref ur), .val (.null), .val (.int (0 : Int32)), .val (.ref h.size), .unset, .val (.int (x1 &&& (3 : Int32))), .val (.int c0), .val (.int c1), .val (.int c2), .val (.int c3)]) (S' := [.int (121 : Int32), .int c1]) rfl ?_
    refine b_cm C P7 (cd := .ne) (o := 21) (by decide +kernel) (pc' := 377) (by decide) (pn := 359) rfl (fun (q10 : ¬ c1 = (121 : Int32)) => ?_) (fun (q10 : c1 = (121 : Int32)) => ?_)
    · skip
      refine blk C P7 [.iconst 0, .istore 10] (by decide +kernel) (pc' := 380) (L' := [.val (.int x0), .val (.int x1), .val (.int x2), .val (.int x3), .val (.int (x0 &&& (7 : Int32))), .val (.ref pf), .val (.ref ur), .val (.null), .val (.int (0 : Int32)), .val (.ref h.size), .val (.int (0 : Int32)), .val (.int (x1 &&& (3 : Int32))), .val (.int c0), .val (.int c1), .val (.int c2), .val (.int c3)]) (S' := []) rfl ?_
      refine b_goto C P7 (o := 39) (by decide +kernel) (pc' := 419) (by decide) ?_
      exact t419_n0c l wd x0 x1 x2 x3 pf ur (h.size) c0 c1 c2 c3 C (P7.more (k' := 11) (n' := 214) (le_ _ _ rfl) (le_ _ _ rfl)) hu0 S7 (fun z => q10 (ne4.mp (z.trans (by decide +kernel : (txt 88) = [(116 : Int32), 121, 112, 101]))).2.1)
    · skip
      refine blk C P7 [.iload 14, .bipush 112] (by decide +kernel) (pc' := 363) (L' := [.val (.int x0), .val (.int x1), .val (.int x2), .val (.int x3), .val (.int (x0 &&& (7 : Int32))), .val (.ref pf), .val (.ref ur), .val (.null), .val (.int (0 : Int32)), .val (.ref h.size), .unset, .val (.int (x1 &&& (3 : Int32))), .val (.int c0), .val (.int c1), .val (.int c2), .val (.int c3)]) (S' := [.int (112 : Int32), .int c2]) rfl ?_
      refine b_cm C P7 (cd := .ne) (o := 14) (by decide +kernel) (pc' := 377) (by decide) (pn := 366) rfl (fun (q11 : ¬ c2 = (112 : Int32)) => ?_) (fun (q11 : c2 = (112 : Int32)) => ?_)
      · skip
        refine blk C P7 [.iconst 0, .istore 10] (by decide +kernel) (pc' := 380) (L' := [.val (.int x0), .val (.int x1), .val (.int x2), .val (.int x3), .val (.int (x0 &&& (7 : Int32))), .val (.ref pf), .val (.ref ur), .val (.null), .val (.int (0 : Int32)), .val (.ref h.size), .val (.int (0 : Int32)), .val (.int (x1 &&& (3 : Int32))), .val (.int c0), .val (.int c1), .val (.int c2), .val (.int c3)]) (S' := []) rfl ?_
        refine b_goto C P7 (o := 39) (by decide +kernel) (pc' := 419) (by decide) ?_
        exact t419_n0c l wd x0 x1 x2 x3 pf ur (h.size) c0 c1 c2 c3 C (P7.more (k' := 11) (n' := 214) (le_ _ _ rfl) (le_ _ _ rfl)) hu0 S7 (fun z => q11 (ne4.mp (z.trans (by decide +kernel : (txt 88) = [(116 : Int32), 121, 112, 101]))).2.2.1)
      · skip
        refine blk C P7 [.iload 15, .bipush 101] (by decide +kernel) (pc' := 370) (L' := [.val (.int x0), .val (.int x1), .val (.int x2), .val (.int x3), .val (.int (x0 &&& (7 : Int32))), .val (.ref pf), .val (.ref ur), .val (.null), .val (.int (0 : Int32)), .val (.ref h.size), .unset, .val (.int (x1 &&& (3 : Int32))), .val (.int c0), .val (.int c1), .val (.int c2), .val (.int c3)]) (S' := [.int (101 : Int32), .int c3]) rfl ?_
        refine b_cm C P7 (cd := .ne) (o := 7) (by decide +kernel) (pc' := 377) (by decide) (pn := 373) rfl (fun (q12 : ¬ c3 = (101 : Int32)) => ?_) (fun (q12 : c3 = (101 : Int32)) => ?_)
        · skip
          refine blk C P7 [.iconst 0, .istore 10] (by decide +kernel) (pc' := 380) (L' := [.val (.int x0), .val (.int x1), .val (.int x2), .val (.int x3), .val (.int (x0 &&& (7 : Int32))), .val (.ref pf), .val (.ref ur), .val (.null), .val (.int (0 : Int32)), .val (.ref h.size), .val (.int (0 : Int32)), .val (.int (x1 &&& (3 : Int32))), .val (.int c0), .val (.int c1), .val (.int c2), .val (.int c3)]) (S' := []) rfl ?_
          refine b_goto C P7 (o := 39) (by decide +kernel) (pc' := 419) (by decide) ?_
          exact t419_n0c l wd x0 x1 x2 x3 pf ur (h.size) c0 c1 c2 c3 C (P7.more (k' := 11) (n' := 214) (le_ _ _ rfl) (le_ _ _ rfl)) hu0 S7 (fun z => q12 (ne4.mp (z.trans (by decide +kernel : (txt 88) = [(116 : Int32), 121, 112, 101]))).2.2.2)
        · skip
          refine blk C P7 [.iconst 1] (by decide +kernel) (pc' := 374) (L' := [.val (.int x0), .val (.int x1), .val (.int x2), .val (.int x3), .val (.int (x0 &&& (7 : Int32))), .val (.ref pf), .val (.ref ur), .val (.null), .val (.int (0 : Int32)), .val (.ref h.size), .unset, .val (.int (x1 &&& (3 : Int32))), .val (.int c0), .val (.int c1), .val (.int c2), .val (.int c3)]) (S' := [.int (1 : Int32)]) rfl ?_
          refine b_goto C P7 (o := 4) (by decide +kernel) (pc' := 378) (by decide) ?_
          refine blk C P7 [.istore 10] (by decide +kernel) (pc' := 380) (L' := [.val (.int x0), .val (.int x1), .val (.int x2), .val (.int x3), .val (.int (x0 &&& (7 : Int32))), .val (.ref pf), .val (.ref ur), .val (.null), .val (.int (0 : Int32)), .val (.ref h.size), .val (.int (1 : Int32)), .val (.int (x1 &&& (3 : Int32))), .val (.int c0), .val (.int c1), .val (.int c2), .val (.int c3)]) (S' := []) rfl ?_
          refine b_goto C P7 (o := 39) (by decide +kernel) (pc' := 419) (by decide) ?_
          exact t419_n1c l wd x0 x1 x2 x3 pf ur (h.size) c0 c1 c2 c3 C (P7.more (k' := 11) (n' := 214) (le_ _ _ rfl) (le_ _ _ rfl)) hu0 ((show [c0, c1, c2, c3] = (txt 88) by rw [q9, q10, q11, q12]; decide +kernel) ▸ S7)
set_option maxRecDepth 65536 in
set_option maxHeartbeats 4000000 in
theorem t289_n (l : Launch) {Z : State} {a0 : Array Value} {n0 : Nat} {h : Heap} {z : Int32} {kX uX kD uD : Addr} {dl : List Int32} (wd : Wd Z a0 z kX uX kD uD dl) (x0 x1 x2 x3 : Int32) (pf ur : Addr) (c0 c1 c2 : Int32)  {p : Program} {e : Env} {s : State} {m : MethodId} {args : Array Value} {below : List Frame} {meth : Method} {c : Code} {T : State} (C : Ctx Z a0 consts_1 p s m meth c "com/example/archive_packager/archivepackager/dc/AttributeIsTypePinLaw" "law" code 16 (some .boolean)) (P : Pos Z consts_1 n0 p l e room_1 s m args below meth c T h 7 190) (hu0 : (x0 &&& (7 : Int32)) = 0) (l0 : ¬ c0 < 0 ∧ ¬ (255 : Int32) < c0) (i0 : c16 c0 = c0) (l1 : ¬ c1 < 0 ∧ ¬ (255 : Int32) < c1) (i1 : c16 c1 = c1) (l2 : ¬ c2 < 0 ∧ ¬ (255 : Int32) < c2) (i2 : c16 c2 = c2) :
    Jvm.Own.Run p.tables e below (Jvm.Own.Ends Z consts_1 n0 room_1 below (Ret1 fun v h' => v = .int 1) s) T (fr m 289 [.val (.int x0), .val (.int x1), .val (.int x2), .val (.int x3), .val (.int (x0 &&& (7 : Int32))), .val (.ref pf), .val (.ref ur), .val (.null), .val (.int (0 : Int32)), .unset, .unset, .val (.int (x1 &&& (3 : Int32))), .val (.int c0), .val (.int c1), .val (.int c2), .unset] []) := by
  obtain ⟨hw, hEL, Sz, hz, YX, XX, GX, SX, YD, XD, GD, SDt, hdl⟩ := id wd
  refine blk C P [.iload_n 1, .iconst 5, .ishr, .iconst 1, .iand] (by decide +kernel) (pc' := 294) (L' := [.val (.int x0), .val (.int x1), .val (.int x2), .val (.int x3), .val (.int (x0 &&& (7 : Int32))), .val (.ref pf), .val (.ref ur), .val (.null), .val (.int (0 : Int32)), .unset, .unset, .val (.int (x1 &&& (3 : Int32))), .val (.int c0), .val (.int c1), .val (.int c2), .unset]) (S' := [.int ((x1 >>> ((5 : Int32) &&& 31)) &&& (1 : Int32))]) rfl ?_
  refine b_if C P (cd := .eq) (o := 8) (by decide +kernel) (pc' := 302) (by decide) (pn := 297) rfl (fun (q1 : ((x1 >>> ((5 : Int32) &&& 31)) &&& (1 : Int32)) = 0) => ?_) (fun (q1 : ¬ ((x1 >>> ((5 : Int32) &&& 31)) &&& (1 : Int32)) = 0) => ?_)
  · skip
    refine blk C P [.iload_n 2, .bipush 24, .ishr, .sipush 255, .iand, .i2c, .istore 15] (by decide +kernel) (pc' := 313) (L' := [.val (.int x0), .val (.int x1), .val (.int x2), .val (.int x3), .val (.int (x0 &&& (7 : Int32))), .val (.ref pf), .val (.ref ur), .val (.null), .val (.int (0 : Int32)), .unset, .unset, .val (.int (x1 &&& (3 : Int32))), .val (.int c0), .val (.int c1), .val (.int c2), .val (.int (c16 ((x2 >>> ((24 : Int32) &&& 31)) &&& (255 : Int32))))]) (S' := []) rfl ?_
    exact t313_n l wd x0 x1 x2 x3 pf ur c0 c1 c2 (c16 ((x2 >>> ((24 : Int32) &&& 31)) &&& (255 : Int32))) C (P.more (k' := 7) (n' := 190) (le_ _ _ rfl) (le_ _ _ rfl)) hu0 l0 i0 l1 i1 l2 i2 latv (c16_idem _)
  · skip
    refine blk C P [.bipush 101] (by decide +kernel) (pc' := 299) (L' := [.val (.int x0), .val (.int x1), .val (.int x2), .val (.int x3), .val (.int (x0 &&& (7 : Int32))), .val (.ref pf), .val (.ref ur), .val (.null), .val (.int (0 : Int32)), .unset, .unset, .val (.int (x1 &&& (3 : Int32))), .val (.int c0), .val (.int c1), .val (.int c2), .unset]) (S' := [.int (101 : Int32)]) rfl ?_
    refine b_goto C P (o := 12) (by decide +kernel) (pc' := 311) (by decide) ?_
    refine blk C P [.istore 15] (by decide +kernel) (pc' := 313) (L' := [.val (.int x0), .val (.int x1), .val (.int x2), .val (.int x3), .val (.int (x0 &&& (7 : Int32))), .val (.ref pf), .val (.ref ur), .val (.null), .val (.int (0 : Int32)), .unset, .unset, .val (.int (x1 &&& (3 : Int32))), .val (.int c0), .val (.int c1), .val (.int c2), .val (.int (101 : Int32))]) (S' := []) rfl ?_
    exact t313_n l wd x0 x1 x2 x3 pf ur c0 c1 c2 (101 : Int32) C (P.more (k' := 7) (n' := 190) (le_ _ _ rfl) (le_ _ _ rfl)) hu0 l0 i0 l1 i1 l2 i2 (by decide) (by decide)
set_option maxRecDepth 65536 in
set_option maxHeartbeats 4000000 in
theorem t265_n (l : Launch) {Z : State} {a0 : Array Value} {n0 : Nat} {h : Heap} {z : Int32} {kX uX kD uD : Addr} {dl : List Int32} (wd : Wd Z a0 z kX uX kD uD dl) (x0 x1 x2 x3 : Int32) (pf ur : Addr) (c0 c1 : Int32)  {p : Program} {e : Env} {s : State} {m : MethodId} {args : Array Value} {below : List Frame} {meth : Method} {c : Code} {T : State} (C : Ctx Z a0 consts_1 p s m meth c "com/example/archive_packager/archivepackager/dc/AttributeIsTypePinLaw" "law" code 16 (some .boolean)) (P : Pos Z consts_1 n0 p l e room_1 s m args below meth c T h 7 190) (hu0 : (x0 &&& (7 : Int32)) = 0) (l0 : ¬ c0 < 0 ∧ ¬ (255 : Int32) < c0) (i0 : c16 c0 = c0) (l1 : ¬ c1 < 0 ∧ ¬ (255 : Int32) < c1) (i1 : c16 c1 = c1) :
    Jvm.Own.Run p.tables e below (Jvm.Own.Ends Z consts_1 n0 room_1 below (Ret1 fun v h' => v = .int 1) s) T (fr m 265 [.val (.int x0), .val (.int x1), .val (.int x2), .val (.int x3), .val (.int (x0 &&& (7 : Int32))), .val (.ref pf), .val (.ref ur), .val (.null), .val (.int (0 : Int32)), .unset, .unset, .val (.int (x1 &&& (3 : Int32))), .val (.int c0), .val (.int c1), .unset, .unset] []) := by
  obtain ⟨hw, hEL, Sz, hz, YX, XX, GX, SX, YD, XD, GD, SDt, hdl⟩ := id wd
  refine blk C P [.iload_n 1, .iconst 4, .ishr, .iconst 1, .iand] (by decide +kernel) (pc' := 270) (L' := [.val (.int x0), .val (.int x1), .val (.int x2), .val (.int x3), .val (.int (x0 &&& (7 : Int32))), .val (.ref pf), .val (.ref ur), .val (.null), .val (.int (0 : Int32)), .unset, .unset, .val (.int (x1 &&& (3 : Int32))), .val (.int c0), .val (.int c1), .unset, .unset]) (S' := [.int ((x1 >>> ((4 : Int32) &&& 31)) &&& (1 : Int32))]) rfl ?_
  refine b_if C P (cd := .eq) (o := 8) (by decide +kernel) (pc' := 278) (by decide) (pn := 273) rfl (fun (q1 : ((x1 >>> ((4 : Int32) &&& 31)) &&& (1 : Int32)) = 0) => ?_) (fun (q1 : ¬ ((x1 >>> ((4 : Int32) &&& 31)) &&& (1 : Int32)) = 0) => ?_)
  · skip
    refine blk C P [.iload_n 2, .bipush 16, .ishr, .sipush 255, .iand, .i2c, .istore 14] (by decide +kernel) (pc' := 289) (L' := [.val (.int x0), .val (.int x1), .val (.int x2), .val (.int x3), .val (.int (x0 &&& (7 : Int32))), .val (.ref pf), .val (.ref ur), .val (.null), .val (.int (0 : Int32)), .unset, .unset, .val (.int (x1 &&& (3 : Int32))), .val (.int c0), .val (.int c1), .val (.int (c16 ((x2 >>> ((16 : Int32) &&& 31)) &&& (255 : Int32)))), .unset]) (S' := []) rfl ?_
    exact t289_n l wd x0 x1 x2 x3 pf ur c0 c1 (c16 ((x2 >>> ((16 : Int32) &&& 31)) &&& (255 : Int32))) C (P.more (k' := 7) (n' := 190) (le_ _ _ rfl) (le_ _ _ rfl)) hu0 l0 i0 l1 i1 latv (c16_idem _)
  · skip
    refine blk C P [.bipush 112] (by decide +kernel) (pc' := 275) (L' := [.val (.int x0), .val (.int x1), .val (.int x2), .val (.int x3), .val (.int (x0 &&& (7 : Int32))), .val (.ref pf), .val (.ref ur), .val (.null), .val (.int (0 : Int32)), .unset, .unset, .val (.int (x1 &&& (3 : Int32))), .val (.int c0), .val (.int c1), .unset, .unset]) (S' := [.int (112 : Int32)]) rfl ?_
    refine b_goto C P (o := 12) (by decide +kernel) (pc' := 287) (by decide) ?_
    refine blk C P [.istore 14] (by decide +kernel) (pc' := 289) (L' := [.val (.int x0), .val (.int x1), .val (.int x2), .val (.int x3), .val (.int (x0 &&& (7 : Int32))), .val (.ref pf), .val (.ref ur), .val (.null), .val (.int (0 : Int32)), .unset, .unset, .val (.int (x1 &&& (3 : Int32))), .val (.int c0), .val (.int c1), .val (.int (112 : Int32)), .unset]) (S' := []) rfl ?_
    exact t289_n l wd x0 x1 x2 x3 pf ur c0 c1 (112 : Int32) C (P.more (k' := 7) (n' := 190) (le_ _ _ rfl) (le_ _ _ rfl)) hu0 l0 i0 l1 i1 (by decide) (by decide)
set_option maxRecDepth 65536 in
set_option maxHeartbeats 4000000 in
theorem t241_n (l : Launch) {Z : State} {a0 : Array Value} {n0 : Nat} {h : Heap} {z : Int32} {kX uX kD uD : Addr} {dl : List Int32} (wd : Wd Z a0 z kX uX kD uD dl) (x0 x1 x2 x3 : Int32) (pf ur : Addr) (c0 : Int32)  {p : Program} {e : Env} {s : State} {m : MethodId} {args : Array Value} {below : List Frame} {meth : Method} {c : Code} {T : State} (C : Ctx Z a0 consts_1 p s m meth c "com/example/archive_packager/archivepackager/dc/AttributeIsTypePinLaw" "law" code 16 (some .boolean)) (P : Pos Z consts_1 n0 p l e room_1 s m args below meth c T h 7 190) (hu0 : (x0 &&& (7 : Int32)) = 0) (l0 : ¬ c0 < 0 ∧ ¬ (255 : Int32) < c0) (i0 : c16 c0 = c0) :
    Jvm.Own.Run p.tables e below (Jvm.Own.Ends Z consts_1 n0 room_1 below (Ret1 fun v h' => v = .int 1) s) T (fr m 241 [.val (.int x0), .val (.int x1), .val (.int x2), .val (.int x3), .val (.int (x0 &&& (7 : Int32))), .val (.ref pf), .val (.ref ur), .val (.null), .val (.int (0 : Int32)), .unset, .unset, .val (.int (x1 &&& (3 : Int32))), .val (.int c0), .unset, .unset, .unset] []) := by
  obtain ⟨hw, hEL, Sz, hz, YX, XX, GX, SX, YD, XD, GD, SDt, hdl⟩ := id wd
  refine blk C P [.iload_n 1, .iconst 3, .ishr, .iconst 1, .iand] (by decide +kernel) (pc' := 246) (L' := [.val (.int x0), .val (.int x1), .val (.int x2), .val (.int x3), .val (.int (x0 &&& (7 : Int32))), .val (.ref pf), .val (.ref ur), .val (.null), .val (.int (0 : Int32)), .unset, .unset, .val (.int (x1 &&& (3 : Int32))), .val (.int c0), .unset, .unset, .unset]) (S' := [.int ((x1 >>> ((3 : Int32) &&& 31)) &&& (1 : Int32))]) rfl ?_
  refine b_if C P (cd := .eq) (o := 8) (by decide +kernel) (pc' := 254) (by decide) (pn := 249) rfl (fun (q1 : ((x1 >>> ((3 : Int32) &&& 31)) &&& (1 : Int32)) = 0) => ?_) (fun (q1 : ¬ ((x1 >>> ((3 : Int32) &&& 31)) &&& (1 : Int32)) = 0) => ?_)
  · skip
    refine blk C P [.iload_n 2, .bipush 8, .ishr, .sipush 255, .iand, .i2c, .istore 13] (by decide +kernel) (pc' := 265) (L' := [.val (.int x0), .val (.int x1), .val (.int x2), .val (.int x3), .val (.int (x0 &&& (7 : Int32))), .val (.ref pf), .val (.ref ur), .val (.null), .val (.int (0 : Int32)), .unset, .unset, .val (.int (x1 &&& (3 : Int32))), .val (.int c0), .val (.int (c16 ((x2 >>> ((8 : Int32) &&& 31)) &&& (255 : Int32)))), .unset, .unset]) (S' := []) rfl ?_
    exact t265_n l wd x0 x1 x2 x3 pf ur c0 (c16 ((x2 >>> ((8 : Int32) &&& 31)) &&& (255 : Int32))) C (P.more (k' := 7) (n' := 190) (le_ _ _ rfl) (le_ _ _ rfl)) hu0 l0 i0 latv (c16_idem _)
  · skip
    refine blk C P [.bipush 121] (by decide +kernel) (pc' := 251) (L' := [.val (.int x0), .val (.int x1), .val (.int x2), .val (.int x3), .val (.int (x0 &&& (7 : Int32))), .val (.ref pf), .val (.ref ur), .val (.null), .val (.int (0 : Int32)), .unset, .unset, .val (.int (x1 &&& (3 : Int32))), .val (.int c0), .unset, .unset, .unset]) (S' := [.int (121 : Int32)]) rfl ?_
    refine b_goto C P (o := 12) (by decide +kernel) (pc' := 263) (by decide) ?_
    refine blk C P [.istore 13] (by decide +kernel) (pc' := 265) (L' := [.val (.int x0), .val (.int x1), .val (.int x2), .val (.int x3), .val (.int (x0 &&& (7 : Int32))), .val (.ref pf), .val (.ref ur), .val (.null), .val (.int (0 : Int32)), .unset, .unset, .val (.int (x1 &&& (3 : Int32))), .val (.int c0), .val (.int (121 : Int32)), .unset, .unset]) (S' := []) rfl ?_
    exact t265_n l wd x0 x1 x2 x3 pf ur c0 (121 : Int32) C (P.more (k' := 7) (n' := 190) (le_ _ _ rfl) (le_ _ _ rfl)) hu0 l0 i0 (by decide) (by decide)
set_option maxRecDepth 65536 in
set_option maxHeartbeats 4000000 in
theorem t194_n (l : Launch) {Z : State} {a0 : Array Value} {n0 : Nat} {h : Heap} {z : Int32} {kX uX kD uD : Addr} {dl : List Int32} (wd : Wd Z a0 z kX uX kD uD dl) (x0 x1 x2 x3 : Int32) (pf ur : Addr)  {p : Program} {e : Env} {s : State} {m : MethodId} {args : Array Value} {below : List Frame} {meth : Method} {c : Code} {T : State} (C : Ctx Z a0 consts_1 p s m meth c "com/example/archive_packager/archivepackager/dc/AttributeIsTypePinLaw" "law" code 16 (some .boolean)) (P : Pos Z consts_1 n0 p l e room_1 s m args below meth c T h 7 190) (hu0 : (x0 &&& (7 : Int32)) = 0) :
    Jvm.Own.Run p.tables e below (Jvm.Own.Ends Z consts_1 n0 room_1 below (Ret1 fun v h' => v = .int 1) s) T (fr m 194 [.val (.int x0), .val (.int x1), .val (.int x2), .val (.int x3), .val (.int (x0 &&& (7 : Int32))), .val (.ref pf), .val (.ref ur), .val (.null), .val (.int (0 : Int32)), .unset, .unset, .unset, .unset, .unset, .unset, .unset] []) := by
  obtain ⟨hw, hEL, Sz, hz, YX, XX, GX, SX, YD, XD, GD, SDt, hdl⟩ := id wd
  have wS : ∀ a ∈ Bundle.stringAtoms, a.before a0 Z = true := fun d hd => hw d ((by decide +kernel : ∀ d ∈ Bundle.stringAtoms, d ∈ tables_1) d hd)
  refine blk C P [.iload_n 1, .iconst 3, .iand, .istore 11, .iload 11] (by decide +kernel) (pc' := 201) (L' := [.val (.int x0), .val (.int x1), .val (.int x2), .val (.int x3), .val (.int (x0 &&& (7 : Int32))), .val (.ref pf), .val (.ref ur), .val (.null), .val (.int (0 : Int32)), .unset, .unset, .val (.int (x1 &&& (3 : Int32))), .unset, .unset, .unset, .unset]) (S' := [.int (x1 &&& (3 : Int32))]) rfl ?_
  refine b_if C P (cd := .ne) (o := 13) (by decide +kernel) (pc' := 214) (by decide) (pn := 204) rfl (fun (q1 : ¬ (x1 &&& (3 : Int32)) = 0) => ?_) (fun (q1 : (x1 &&& (3 : Int32)) = 0) => ?_)
  · skip
    refine blk C P [.iload 11, .iconst 1] (by decide +kernel) (pc' := 217) (L' := [.val (.int x0), .val (.int x1), .val (.int x2), .val (.int x3), .val (.int (x0 &&& (7 : Int32))), .val (.ref pf), .val (.ref ur), .val (.null), .val (.int (0 : Int32)), .unset, .unset, .val (.int (x1 &&& (3 : Int32))), .unset, .unset, .unset, .unset]) (S' := [.int (1 : Int32), .int (x1 &&& (3 : Int32))]) rfl ?_
    refine b_cm C P (cd := .ne) (o := 166) (by decide +kernel) (pc' := 383) (by decide) (pn := 220) rfl (fun (q2 : ¬ (x1 &&& (3 : Int32)) = (1 : Int32)) => ?_) (fun (q2 : (x1 &&& (3 : Int32)) = (1 : Int32)) => ?_)
    · skip
      refine blk C P [.iload 11, .iconst 2] (by decide +kernel) (pc' := 386) (L' := [.val (.int x0), .val (.int x1), .val (.int x2), .val (.int x3), .val (.int (x0 &&& (7 : Int32))), .val (.ref pf), .val (.ref ur), .val (.null), .val (.int (0 : Int32)), .unset, .unset, .val (.int (x1 &&& (3 : Int32))), .unset, .unset, .unset, .unset]) (S' := [.int (2 : Int32), .int (x1 &&& (3 : Int32))]) rfl ?_
      refine b_cm C P (cd := .ne) (o := 13) (by decide +kernel) (pc' := 399) (by decide) (pn := 389) rfl (fun (q3 : ¬ (x1 &&& (3 : Int32)) = (2 : Int32)) => ?_) (fun (q3 : (x1 &&& (3 : Int32)) = (2 : Int32)) => ?_)
      · skip
        refine blk C P [.iload_n 1, .iconst 2, .ishr, .iconst 1, .iand] (by decide +kernel) (pc' := 404) (L' := [.val (.int x0), .val (.int x1), .val (.int x2), .val (.int x3), .val (.int (x0 &&& (7 : Int32))), .val (.ref pf), .val (.ref ur), .val (.null), .val (.int (0 : Int32)), .unset, .unset, .val (.int (x1 &&& (3 : Int32))), .unset, .unset, .unset, .unset]) (S' := [.int ((x1 >>> ((2 : Int32) &&& 31)) &&& (1 : Int32))]) rfl ?_
        refine b_if C P (cd := .eq) (o := 8) (by decide +kernel) (pc' := 412) (by decide) (pn := 407) rfl (fun (q4 : ((x1 >>> ((2 : Int32) &&& 31)) &&& (1 : Int32)) = 0) => ?_) (fun (q4 : ¬ ((x1 >>> ((2 : Int32) &&& 31)) &&& (1 : Int32)) = 0) => ?_)
        · skip
          refine s_ldc C P (idx := 48) (txt 29) (by decide +kernel) (hw _ (List.mem_of_getElem? (i := 29) rfl)) wS (by decide +kernel) (by decide +kernel) (by decide +kernel) (by decide +kernel) (len := 20) (by decide) (by decide) (le_ _ _ rfl) (le_ _ _ rfl) (pc' := 414) rfl (fun T5 h5 a5 P5 E5 S5 => ?_)
          replace P5 := P5.more (k' := 9) (n' := 214) (le_ _ _ rfl) (le_ _ _ rfl)
          refine blk C P5 [.astore 9, .iconst 0, .istore 10] (by decide +kernel) (pc' := 419) (L' := [.val (.int x0), .val (.int x1), .val (.int x2), .val (.int x3), .val (.int (x0 &&& (7 : Int32))), .val (.ref pf), .val (.ref ur), .val (.null), .val (.int (0 : Int32)), .val (.ref a5), .val (.int (0 : Int32)), .val (.int (x1 &&& (3 : Int32))), .unset, .unset, .unset, .unset]) (S' := []) rfl ?_
          exact t419_n0u l wd x0 x1 x2 x3 pf ur a5 C (P5.more (k' := 11) (n' := 214) (le_ _ _ rfl) (le_ _ _ rfl)) hu0 S5 (by decide +kernel)
        · skip
          refine s_ldc C P (idx := 46) (txt 83) (by decide +kernel) (hw _ (List.mem_of_getElem? (i := 83) rfl)) wS (by decide +kernel) (by decide +kernel) (by decide +kernel) (by decide +kernel) (len := 12) (by decide) (by decide) (le_ _ _ rfl) (le_ _ _ rfl) (pc' := 409) rfl (fun T6 h6 a6 P6 E6 S6 => ?_)
          replace P6 := P6.more (k' := 9) (n' := 206) (le_ _ _ rfl) (le_ _ _ rfl)
          refine b_goto C P6 (o := 5) (by decide +kernel) (pc' := 414) (by decide) ?_
          refine blk C P6 [.astore 9, .iconst 0, .istore 10] (by decide +kernel) (pc' := 419) (L' := [.val (.int x0), .val (.int x1), .val (.int x2), .val (.int x3), .val (.int (x0 &&& (7 : Int32))), .val (.ref pf), .val (.ref ur), .val (.null), .val (.int (0 : Int32)), .val (.ref a6), .val (.int (0 : Int32)), .val (.int (x1 &&& (3 : Int32))), .unset, .unset, .unset, .unset]) (S' := []) rfl ?_
          exact t419_n0u l wd x0 x1 x2 x3 pf ur a6 C (P6.more (k' := 11) (n' := 214) (le_ _ _ rfl) (le_ _ _ rfl)) hu0 S6 (by decide +kernel)
      · skip
        refine s_ldc C P (idx := 44) (txt 85) (by decide +kernel) (hw _ (List.mem_of_getElem? (i := 85) rfl)) wS (by decide +kernel) (by decide +kernel) (by decide +kernel) (by decide +kernel) (len := 16) (by decide) (by decide) (le_ _ _ rfl) (le_ _ _ rfl) (pc' := 391) rfl (fun T7 h7 a7 P7 E7 S7 => ?_)
        replace P7 := P7.more (k' := 9) (n' := 210) (le_ _ _ rfl) (le_ _ _ rfl)
        refine blk C P7 [.astore 9, .iconst 0, .istore 10] (by decide +kernel) (pc' := 396) (L' := [.val (.int x0), .val (.int x1), .val (.int x2), .val (.int x3), .val (.int (x0 &&& (7 : Int32))), .val (.ref pf), .val (.ref ur), .val (.null), .val (.int (0 : Int32)), .val (.ref a7), .val (.int (0 : Int32)), .val (.int (x1 &&& (3 : Int32))), .unset, .unset, .unset, .unset]) (S' := []) rfl ?_
        refine b_goto C P7 (o := 23) (by decide +kernel) (pc' := 419) (by decide) ?_
        exact t419_n0u l wd x0 x1 x2 x3 pf ur a7 C (P7.more (k' := 11) (n' := 214) (le_ _ _ rfl) (le_ _ _ rfl)) hu0 S7 (by decide +kernel)
    · skip
      refine blk C P [.iload_n 1, .iconst 2, .ishr, .iconst 1, .iand] (by decide +kernel) (pc' := 225) (L' := [.val (.int x0), .val (.int x1), .val (.int x2), .val (.int x3), .val (.int (x0 &&& (7 : Int32))), .val (.ref pf), .val (.ref ur), .val (.null), .val (.int (0 : Int32)), .unset, .unset, .val (.int (x1 &&& (3 : Int32))), .unset, .unset, .unset, .unset]) (S' := [.int ((x1 >>> ((2 : Int32) &&& 31)) &&& (1 : Int32))]) rfl ?_
      refine b_if C P (cd := .eq) (o := 8) (by decide +kernel) (pc' := 233) (by decide) (pn := 228) rfl (fun (q8 : ((x1 >>> ((2 : Int32) &&& 31)) &&& (1 : Int32)) = 0) => ?_) (fun (q8 : ¬ ((x1 >>> ((2 : Int32) &&& 31)) &&& (1 : Int32)) = 0) => ?_)
      · skip
        refine blk C P [.iload_n 2, .sipush 255, .iand, .i2c, .istore 12] (by decide +kernel) (pc' := 241) (L' := [.val (.int x0), .val (.int x1), .val (.int x2), .val (.int x3), .val (.int (x0 &&& (7 : Int32))), .val (.ref pf), .val (.ref ur), .val (.null), .val (.int (0 : Int32)), .unset, .unset, .val (.int (x1 &&& (3 : Int32))), .val (.int (c16 (x2 &&& (255 : Int32)))), .unset, .unset, .unset]) (S' := []) rfl ?_
        exact t241_n l wd x0 x1 x2 x3 pf ur (c16 (x2 &&& (255 : Int32))) C (P.more (k' := 7) (n' := 190) (le_ _ _ rfl) (le_ _ _ rfl)) hu0 latv (c16_idem _)
      · skip
        refine blk C P [.bipush 116] (by decide +kernel) (pc' := 230) (L' := [.val (.int x0), .val (.int x1), .val (.int x2), .val (.int x3), .val (.int (x0 &&& (7 : Int32))), .val (.ref pf), .val (.ref ur), .val (.null), .val (.int (0 : Int32)), .unset, .unset, .val (.int (x1 &&& (3 : Int32))), .unset, .unset, .unset, .unset]) (S' := [.int (116 : Int32)]) rfl ?_
        refine b_goto C P (o := 9) (by decide +kernel) (pc' := 239) (by decide) ?_
        refine blk C P [.istore 12] (by decide +kernel) (pc' := 241) (L' := [.val (.int x0), .val (.int x1), .val (.int x2), .val (.int x3), .val (.int (x0 &&& (7 : Int32))), .val (.ref pf), .val (.ref ur), .val (.null), .val (.int (0 : Int32)), .unset, .unset, .val (.int (x1 &&& (3 : Int32))), .val (.int (116 : Int32)), .unset, .unset, .unset]) (S' := []) rfl ?_
        exact t241_n l wd x0 x1 x2 x3 pf ur (116 : Int32) C (P.more (k' := 7) (n' := 190) (le_ _ _ rfl) (le_ _ _ rfl)) hu0 (by decide) (by decide)
  · skip
    refine s_ldc C P (idx := 42) (txt 86) (by decide +kernel) (hw _ (List.mem_of_getElem? (i := 86) rfl)) wS (by decide +kernel) (by decide +kernel) (by decide +kernel) (by decide +kernel) (len := 16) (by decide) (by decide) (le_ _ _ rfl) (le_ _ _ rfl) (pc' := 206) rfl (fun T9 h9 a9 P9 E9 S9 => ?_)
    replace P9 := P9.more (k' := 9) (n' := 210) (le_ _ _ rfl) (le_ _ _ rfl)
    refine blk C P9 [.astore 9, .iconst 1, .istore 10] (by decide +kernel) (pc' := 211) (L' := [.val (.int x0), .val (.int x1), .val (.int x2), .val (.int x3), .val (.int (x0 &&& (7 : Int32))), .val (.ref pf), .val (.ref ur), .val (.null), .val (.int (0 : Int32)), .val (.ref a9), .val (.int (1 : Int32)), .val (.int (x1 &&& (3 : Int32))), .unset, .unset, .unset, .unset]) (S' := []) rfl ?_
    refine b_goto C P9 (o := 208) (by decide +kernel) (pc' := 419) (by decide) ?_
    exact t419_n1u l wd x0 x1 x2 x3 pf ur a9 C (P9.more (k' := 11) (n' := 214) (le_ _ _ rfl) (le_ _ _ rfl)) hu0 ((by decide +kernel : (txt 86) = (txt 88)) ▸ S9)
set_option maxRecDepth 65536 in
set_option maxHeartbeats 4000000 in
theorem t446_t1u (l : Launch) {Z : State} {a0 : Array Value} {n0 : Nat} {h : Heap} {z : Int32} {kX uX kD uD : Addr} {dl : List Int32} (wd : Wd Z a0 z kX uX kD uD dl) (x0 x1 x2 x3 : Int32) (pf ur nsp : Addr) (nm vl : Addr)  {p : Program} {e : Env} {s : State} {m : MethodId} {args : Array Value} {below : List Frame} {meth : Method} {c : Code} {T : State} (C : Ctx Z a0 consts_1 p s m meth c "com/example/archive_packager/archivepackager/dc/AttributeIsTypePinLaw" "law" code 16 (some .boolean)) (P : Pos Z consts_1 n0 p l e room_1 s m args below meth c T h 13 234) (hu0 : ¬ (x0 &&& (7 : Int32)) = 0) (A : Exa Z h nsp "com/example/archive_packager/archivepackager/xml/Namespace") (G : Fld Z h nsp "com/example/archive_packager/archivepackager/xml/Namespace" "uri" "Ljava/lang/String;" (.ref ur)) (S : Str Z h ur (txt 84)) (Sn : Str Z h nm (txt 88)) :
    Jvm.Own.Run p.tables e below (Jvm.Own.Ends Z consts_1 n0 room_1 below (Ret1 fun v h' => v = .int 1) s) T (fr m 446 [.val (.int x0), .val (.int x1), .val (.int x2), .val (.int x3), .val (.int (x0 &&& (7 : Int32))), .val (.ref pf), .val (.ref ur), .val (.ref nsp), .val (.int (1 : Int32)), .val (.ref nm), .val (.int (1 : Int32)), .val (.int (x1 &&& (3 : Int32))), .val (.ref vl), .unset, .unset, .unset] []) := by
  obtain ⟨hw, hEL, Sz, hz, YX, XX, GX, SX, YD, XD, GD, SDt, hdl⟩ := id wd
  refine blk C P [.iload_n 0, .iconst 4, .ishr, .iconst 1, .iand] (by decide +kernel) (pc' := 451) (L' := [.val (.int x0), .val (.int x1), .val (.int x2), .val (.int x3), .val (.int (x0 &&& (7 : Int32))), .val (.ref pf), .val (.ref ur), .val (.ref nsp), .val (.int (1 : Int32)), .val (.ref nm), .val (.int (1 : Int32)), .val (.int (x1 &&& (3 : Int32))), .val (.ref vl), .unset, .unset, .unset]) (S' := [.int ((x0 >>> ((4 : Int32) &&& 31)) &&& (1 : Int32))]) rfl ?_
  refine b_if C P (cd := .eq) (o := 9) (by decide +kernel) (pc' := 460) (by decide) (pn := 454) rfl (fun (q1 : ((x0 >>> ((4 : Int32) &&& 31)) &&& (1 : Int32)) = 0) => ?_) (fun (q1 : ¬ ((x0 >>> ((4 : Int32) &&& 31)) &&& (1 : Int32)) = 0) => ?_)
  · skip
    refine blk C P [.aconst_null, .astore 13] (by decide +kernel) (pc' := 463) (L' := [.val (.int x0), .val (.int x1), .val (.int x2), .val (.int x3), .val (.int (x0 &&& (7 : Int32))), .val (.ref pf), .val (.ref ur), .val (.ref nsp), .val (.int (1 : Int32)), .val (.ref nm), .val (.int (1 : Int32)), .val (.int (x1 &&& (3 : Int32))), .val (.ref vl), .val (.null), .unset, .unset]) (S' := []) rfl ?_
    refine s_new C P (idx := 50) (by decide +kernel) (hw _ (List.mem_of_getElem? (i := 30) rfl)) (hw _ (List.mem_of_getElem? (i := 31) rfl)) (hw _ (List.mem_of_getElem? (i := 32) rfl)) (le_ _ _ rfl) (le_ _ _ rfl) (pc' := 466) rfl (fun T2 h2 P2 E2 B2 => ?_)
    replace P2 := P2.more (k' := 14) (n' := 238) (le_ _ _ rfl) (le_ _ _ rfl)
    refine blk C P2 [.dup, .aload 7, .aload 9, .aload 12, .aload 13] (by decide +kernel) (pc' := 475) (L' := [.val (.int x0), .val (.int x1), .val (.int x2), .val (.int x3), .val (.int (x0 &&& (7 : Int32))), .val (.ref pf), .val (.ref ur), .val (.ref nsp), .val (.int (1 : Int32)), .val (.ref nm), .val (.int (1 : Int32)), .val (.int (x1 &&& (3 : Int32))), .val (.ref vl), .val (.null), .unset, .unset]) (S' := [.null, .ref vl, .ref nm, .ref nsp, .ref h.size, .ref h.size]) rfl ?_
    refine c_special C P2 (idx := 52) (y := (⟨"com/example/archive_packager/archivepackager/dc/DcElement$Attribute", "<init>", "(Lcom/example/archive_packager/archivepackager/xml/Namespace;Ljava/lang/String;Ljava/lang/String;Lcom/example/archive_packager/archivepackager/xml/Namespace;)V"⟩ : MethodName)) (ybytes := prog_13_method_1_code) (ymax := 5) (yrm := ({ frames := 2, cells := 0, slots := 0, locals := 24 } : Room)) rfl (by decide +kernel) (hw _ (List.mem_of_getElem? (i := 33) rfl)) (hw _ (List.mem_of_getElem? (i := 34) rfl)) (hw _ (List.mem_of_getElem? (i := 32) rfl)) (hw _ (List.mem_of_getElem? (i := 35) rfl)) (by decide) [.ref nsp, .ref nm, .ref vl, .null] [.ref h.size] (k_att_rn l wd (h.size) nsp nm vl P2.old B2) (le_ _ _ rfl) (W := 1) (le_ _ _ rfl) (by decide +kernel : parseMethodDescriptor "(Lcom/example/archive_packager/archivepackager/xml/Namespace;Ljava/lang/String;Ljava/lang/String;Lcom/example/archive_packager/archivepackager/xml/Namespace;)V" = some ⟨[(.object "com/example/archive_packager/archivepackager/xml/Namespace"), (.object "java/lang/String"), (.object "java/lang/String"), (.object "com/example/archive_packager/archivepackager/xml/Namespace")], none⟩) rfl rfl rfl (le_ _ _ rfl) (le_ _ _ rfl) (le_ _ _ rfl) (pc' := 478) rfl (fun T3 h3 P3 Q3 => ?_)
    replace P3 := P3.more (k' := 14) (n' := 238) (le_ _ _ rfl) (le_ _ _ rfl)
    obtain ⟨K3, A3, F3_0, F3_1⟩ := Q3
    refine blk C P3 [.astore 14, .iload 4] (by decide +kernel) (pc' := 482) (L' := [.val (.int x0), .val (.int x1), .val (.int x2), .val (.int x3), .val (.int (x0 &&& (7 : Int32))), .val (.ref pf), .val (.ref ur), .val (.ref nsp), .val (.int (1 : Int32)), .val (.ref nm), .val (.int (1 : Int32)), .val (.int (x1 &&& (3 : Int32))), .val (.ref vl), .val (.null), .val (.ref h.size), .unset]) (S' := [.int (x0 &&& (7 : Int32))]) rfl ?_
    refine b_ifN C P3 (cd := .eq) (o := 17) (by decide +kernel) (pc' := 485) rfl hu0 ?_
    refine blk C P3 [.iload 8] (by decide +kernel) (pc' := 487) (L' := [.val (.int x0), .val (.int x1), .val (.int x2), .val (.int x3), .val (.int (x0 &&& (7 : Int32))), .val (.ref pf), .val (.ref ur), .val (.ref nsp), .val (.int (1 : Int32)), .val (.ref nm), .val (.int (1 : Int32)), .val (.int (x1 &&& (3 : Int32))), .val (.ref vl), .val (.null), .val (.ref h.size), .unset]) (S' := [.int (1 : Int32)]) rfl ?_
    refine b_ifN C P3 (cd := .eq) (o := 12) (by decide +kernel) (pc' := 490) rfl (by decide : ¬ (1 : Int32) = 0) ?_
    refine blk C P3 [.iload 10] (by decide +kernel) (pc' := 492) (L' := [.val (.int x0), .val (.int x1), .val (.int x2), .val (.int x3), .val (.int (x0 &&& (7 : Int32))), .val (.ref pf), .val (.ref ur), .val (.ref nsp), .val (.int (1 : Int32)), .val (.ref nm), .val (.int (1 : Int32)), .val (.int (x1 &&& (3 : Int32))), .val (.ref vl), .val (.null), .val (.ref h.size), .unset]) (S' := [.int (1 : Int32)]) rfl ?_
    refine b_ifN C P3 (cd := .eq) (o := 7) (by decide +kernel) (pc' := 495) rfl (by decide : ¬ (1 : Int32) = 0) ?_
    refine blk C P3 [.iconst 1] (by decide +kernel) (pc' := 496) (L' := [.val (.int x0), .val (.int x1), .val (.int x2), .val (.int x3), .val (.int (x0 &&& (7 : Int32))), .val (.ref pf), .val (.ref ur), .val (.ref nsp), .val (.int (1 : Int32)), .val (.ref nm), .val (.int (1 : Int32)), .val (.int (x1 &&& (3 : Int32))), .val (.ref vl), .val (.null), .val (.ref h.size), .unset]) (S' := [.int (1 : Int32)]) rfl ?_
    refine b_goto C P3 (o := 4) (by decide +kernel) (pc' := 500) (by decide) ?_
    refine blk C P3 [.istore 15, .aload 14] (by decide +kernel) (pc' := 504) (L' := [.val (.int x0), .val (.int x1), .val (.int x2), .val (.int x3), .val (.int (x0 &&& (7 : Int32))), .val (.ref pf), .val (.ref ur), .val (.ref nsp), .val (.int (1 : Int32)), .val (.ref nm), .val (.int (1 : Int32)), .val (.int (x1 &&& (3 : Int32))), .val (.ref vl), .val (.null), .val (.ref h.size), .val (.int (1 : Int32))]) (S' := [.ref h.size]) rfl ?_
    refine c_virtual C P3 (idx := 55) (y := (⟨"com/example/archive_packager/archivepackager/dc/DcElement$Attribute", "isType", "()Z"⟩ : MethodName)) (K0 := "com/example/archive_packager/archivepackager/dc/DcElement$Attribute") (ybytes := prog_13_method_2_code) (ymax := 1) (yret := (some .boolean)) (yrm := ({ frames := 2, cells := 2, slots := 20, locals := 28 } : Room)) (by decide +kernel) (hw _ (List.mem_of_getElem? (i := 50) rfl)) (hw _ (List.mem_of_getElem? (i := 51) rfl)) (hw _ (List.mem_of_getElem? (i := 53) rfl)) (hw _ (List.mem_of_getElem? (i := 52) rfl)) (hw _ (List.mem_of_getElem? (i := 32) rfl)) (hw _ (List.mem_of_getElem? (i := 54) rfl)) (by decide) A3 [] [] (k_is_r l wd (h.size) nsp ur nm P3.old F3_0 F3_1 (A.ext (exK E2 K3 (Nat.le_refl _))) (G.ext (exK E2 K3 (Nat.le_refl _))) (S.ext (exK E2 K3 (Nat.le_refl _))) (Sn.ext (exK E2 K3 (Nat.le_refl _)))) (le_ _ _ rfl) (W := 0) (le_ _ _ rfl) (by decide +kernel : parseMethodDescriptor "()Z" = some ⟨[], some .boolean⟩) rfl rfl rfl (le_ _ _ rfl) (le_ _ _ rfl) (le_ _ _ rfl) (pc' := 507) rfl (fun T4 h4 v4 P4 Q4 => ?_)
    replace P4 := P4.more (k' := 16) (n' := 258) (le_ _ _ rfl) (le_ _ _ rfl)
    obtain ⟨Q4, E4⟩ := Q4
    rcases Q4 with ⟨rfl, Q4⟩ | ⟨rfl, Q4⟩
    · skip
      refine blk C P4 [.iload 15] (by decide +kernel) (pc' := 509) (L' := [.val (.int x0), .val (.int x1), .val (.int x2), .val (.int x3), .val (.int (x0 &&& (7 : Int32))), .val (.ref pf), .val (.ref ur), .val (.ref nsp), .val (.int (1 : Int32)), .val (.ref nm), .val (.int (1 : Int32)), .val (.int (x1 &&& (3 : Int32))), .val (.ref vl), .val (.null), .val (.ref h.size), .val (.int (1 : Int32))]) (S' := [.int (1 : Int32), .int (1 : Int32)]) rfl ?_
      refine b_cmN C P4 (cd := .ne) (o := 7) (by decide +kernel) (pc' := 512) rfl (by decide : (1 : Int32) = (1 : Int32)) ?_
      refine blk C P4 [.iconst 1] (by decide +kernel) (pc' := 513) (L' := [.val (.int x0), .val (.int x1), .val (.int x2), .val (.int x3), .val (.int (x0 &&& (7 : Int32))), .val (.ref pf), .val (.ref ur), .val (.ref nsp), .val (.int (1 : Int32)), .val (.ref nm), .val (.int (1 : Int32)), .val (.int (x1 &&& (3 : Int32))), .val (.ref vl), .val (.null), .val (.ref h.size), .val (.int (1 : Int32))]) (S' := [.int (1 : Int32)]) rfl ?_
      refine b_goto C P4 (o := 4) (by decide +kernel) (pc' := 517) (by decide) ?_
      exact r_int C P4 (ty := .boolean) (by simp) rfl (by decide +kernel) (le_ _ _ rfl) (le_ _ _ rfl) ⟨_, rfl, rfl⟩
    · skip
      exact absurd ⟨rfl, rfl⟩ Q4
  · skip
    refine s_gets C P (idx := 15) (by decide +kernel) (hw _ (List.mem_of_getElem? (i := 87) rfl)) YX (pc' := 457) rfl (fun T5 P5 => ?_)
    refine b_goto C P5 (o := 4) (by decide +kernel) (pc' := 461) (by decide) ?_
    refine blk C P5 [.astore 13] (by decide +kernel) (pc' := 463) (L' := [.val (.int x0), .val (.int x1), .val (.int x2), .val (.int x3), .val (.int (x0 &&& (7 : Int32))), .val (.ref pf), .val (.ref ur), .val (.ref nsp), .val (.int (1 : Int32)), .val (.ref nm), .val (.int (1 : Int32)), .val (.int (x1 &&& (3 : Int32))), .val (.ref vl), .val (.ref kX), .unset, .unset]) (S' := []) rfl ?_
    refine s_new C P5 (idx := 50) (by decide +kernel) (hw _ (List.mem_of_getElem? (i := 30) rfl)) (hw _ (List.mem_of_getElem? (i := 31) rfl)) (hw _ (List.mem_of_getElem? (i := 32) rfl)) (le_ _ _ rfl) (le_ _ _ rfl) (pc' := 466) rfl (fun T6 h6 P6 E6 B6 => ?_)
    replace P6 := P6.more (k' := 14) (n' := 238) (le_ _ _ rfl) (le_ _ _ rfl)
    refine blk C P6 [.dup, .aload 7, .aload 9, .aload 12, .aload 13] (by decide +kernel) (pc' := 475) (L' := [.val (.int x0), .val (.int x1), .val (.int x2), .val (.int x3), .val (.int (x0 &&& (7 : Int32))), .val (.ref pf), .val (.ref ur), .val (.ref nsp), .val (.int (1 : Int32)), .val (.ref nm), .val (.int (1 : Int32)), .val (.int (x1 &&& (3 : Int32))), .val (.ref vl), .val (.ref kX), .unset, .unset]) (S' := [.ref kX, .ref vl, .ref nm, .ref nsp, .ref h.size, .ref h.size]) rfl ?_
    refine c_special C P6 (idx := 52) (y := (⟨"com/example/archive_packager/archivepackager/dc/DcElement$Attribute", "<init>", "(Lcom/example/archive_packager/archivepackager/xml/Namespace;Ljava/lang/String;Ljava/lang/String;Lcom/example/archive_packager/archivepackager/xml/Namespace;)V"⟩ : MethodName)) (ybytes := prog_13_method_1_code) (ymax := 5) (yrm := ({ frames := 2, cells := 0, slots := 0, locals := 24 } : Room)) rfl (by decide +kernel) (hw _ (List.mem_of_getElem? (i := 33) rfl)) (hw _ (List.mem_of_getElem? (i := 34) rfl)) (hw _ (List.mem_of_getElem? (i := 32) rfl)) (hw _ (List.mem_of_getElem? (i := 35) rfl)) (by decide) [.ref nsp, .ref nm, .ref vl, .ref kX] [.ref h.size] (k_att_rr l wd (h.size) nsp nm vl kX P6.old B6) (le_ _ _ rfl) (W := 1) (le_ _ _ rfl) (by decide +kernel : parseMethodDescriptor "(Lcom/example/archive_packager/archivepackager/xml/Namespace;Ljava/lang/String;Ljava/lang/String;Lcom/example/archive_packager/archivepackager/xml/Namespace;)V" = some ⟨[(.object "com/example/archive_packager/archivepackager/xml/Namespace"), (.object "java/lang/String"), (.object "java/lang/String"), (.object "com/example/archive_packager/archivepackager/xml/Namespace")], none⟩) rfl rfl rfl (le_ _ _ rfl) (le_ _ _ rfl) (le_ _ _ rfl) (pc' := 478) rfl (fun T7 h7 P7 Q7 => ?_)
    replace P7 := P7.more (k' := 14) (n' := 238) (le_ _ _ rfl) (le_ _ _ rfl)
    obtain ⟨K7, A7, F7_0, F7_1⟩ := Q7
    refine blk C P7 [.astore 14, .iload 4] (by decide +kernel) (pc' := 482) (L' := [.val (.int x0), .val (.int x1), .val (.int x2), .val (.int x3), .val (.int (x0 &&& (7 : Int32))), .val (.ref pf), .val (.ref ur), .val (.ref nsp), .val (.int (1 : Int32)), .val (.ref nm), .val (.int (1 : Int32)), .val (.int (x1 &&& (3 : Int32))), .val (.ref vl), .val (.ref kX), .val (.ref h.size), .unset]) (S' := [.int (x0 &&& (7 : Int32))]) rfl ?_
    refine b_ifN C P7 (cd := .eq) (o := 17) (by decide +kernel) (pc' := 485) rfl hu0 ?_
    refine blk C P7 [.iload 8] (by decide +kernel) (pc' := 487) (L' := [.val (.int x0), .val (.int x1), .val (.int x2), .val (.int x3), .val (.int (x0 &&& (7 : Int32))), .val (.ref pf), .val (.ref ur), .val (.ref nsp), .val (.int (1 : Int32)), .val (.ref nm), .val (.int (1 : Int32)), .val (.int (x1 &&& (3 : Int32))), .val (.ref vl), .val (.ref kX), .val (.ref h.size), .unset]) (S' := [.int (1 : Int32)]) rfl ?_
    refine b_ifN C P7 (cd := .eq) (o := 12) (by decide +kernel) (pc' := 490) rfl (by decide : ¬ (1 : Int32) = 0) ?_
    refine blk C P7 [.iload 10] (by decide +kernel) (pc' := 492) (L' := [.val (.int x0), .val (.int x1), .val (.int x2), .val (.int x3), .val (.int (x0 &&& (7 : Int32))), .val (.ref pf), .val (.ref ur), .val (.ref nsp), .val (.int (1 : Int32)), .val (.ref nm), .val (.int (1 : Int32)), .val (.int (x1 &&& (3 : Int32))), .val (.ref vl), .val (.ref kX), .val (.ref h.size), .unset]) (S' := [.int (1 : Int32)]) rfl ?_
    refine b_ifN C P7 (cd := .eq) (o := 7) (by decide +kernel) (pc' := 495) rfl (by decide : ¬ (1 : Int32) = 0) ?_
    refine blk C P7 [.iconst 1] (by decide +kernel) (pc' := 496) (L' := [.val (.int x0), .val (.int x1), .val (.int x2), .val (.int x3), .val (.int (x0 &&& (7 : Int32))), .val (.ref pf), .val (.ref ur), .val (.ref nsp), .val (.int (1 : Int32)), .val (.ref nm), .val (.int (1 : Int32)), .val (.int (x1 &&& (3 : Int32))), .val (.ref vl), .val (.ref kX), .val (.ref h.size), .unset]) (S' := [.int (1 : Int32)]) rfl ?_
    refine b_goto C P7 (o := 4) (by decide +kernel) (pc' := 500) (by decide) ?_
    refine blk C P7 [.istore 15, .aload 14] (by decide +kernel) (pc' := 504) (L' := [.val (.int x0), .val (.int x1), .val (.int x2), .val (.int x3), .val (.int (x0 &&& (7 : Int32))), .val (.ref pf), .val (.ref ur), .val (.ref nsp), .val (.int (1 : Int32)), .val (.ref nm), .val (.int (1 : Int32)), .val (.int (x1 &&& (3 : Int32))), .val (.ref vl), .val (.ref kX), .val (.ref h.size), .val (.int (1 : Int32))]) (S' := [.ref h.size]) rfl ?_
    refine c_virtual C P7 (idx := 55) (y := (⟨"com/example/archive_packager/archivepackager/dc/DcElement$Attribute", "isType", "()Z"⟩ : MethodName)) (K0 := "com/example/archive_packager/archivepackager/dc/DcElement$Attribute") (ybytes := prog_13_method_2_code) (ymax := 1) (yret := (some .boolean)) (yrm := ({ frames := 2, cells := 2, slots := 20, locals := 28 } : Room)) (by decide +kernel) (hw _ (List.mem_of_getElem? (i := 50) rfl)) (hw _ (List.mem_of_getElem? (i := 51) rfl)) (hw _ (List.mem_of_getElem? (i := 53) rfl)) (hw _ (List.mem_of_getElem? (i := 52) rfl)) (hw _ (List.mem_of_getElem? (i := 32) rfl)) (hw _ (List.mem_of_getElem? (i := 54) rfl)) (by decide) A7 [] [] (k_is_r l wd (h.size) nsp ur nm P7.old F7_0 F7_1 (A.ext (exK E6 K7 (Nat.le_refl _))) (G.ext (exK E6 K7 (Nat.le_refl _))) (S.ext (exK E6 K7 (Nat.le_refl _))) (Sn.ext (exK E6 K7 (Nat.le_refl _)))) (le_ _ _ rfl) (W := 0) (le_ _ _ rfl) (by decide +kernel : parseMethodDescriptor "()Z" = some ⟨[], some .boolean⟩) rfl rfl rfl (le_ _ _ rfl) (le_ _ _ rfl) (le_ _ _ rfl) (pc' := 507) rfl (fun T8 h8 v8 P8 Q8 => ?_)
    replace P8 := P8.more (k' := 16) (n' := 258) (le_ _ _ rfl) (le_ _ _ rfl)
    obtain ⟨Q8, E8⟩ := Q8
    rcases Q8 with ⟨rfl, Q8⟩ | ⟨rfl, Q8⟩
    · skip
      refine blk C P8 [.iload 15] (by decide +kernel) (pc' := 509) (L' := [.val (.int x0), .val (.int x1), .val (.int x2), .val (.int x3), .val (.int (x0 &&& (7 : Int32))), .val (.ref pf), .val (.ref ur), .val (.ref nsp), .val (.int (1 : Int32)), .val (.ref nm), .val (.int (1 : Int32)), .val (.int (x1 &&& (3 : Int32))), .val (.ref vl), .val (.ref kX), .val (.ref h.size), .val (.int (1 : Int32))]) (S' := [.int (1 : Int32), .int (1 : Int32)]) rfl ?_
      refine b_cmN C P8 (cd := .ne) (o := 7) (by decide +kernel) (pc' := 512) rfl (by decide : (1 : Int32) = (1 : Int32)) ?_
      refine blk C P8 [.iconst 1] (by decide +kernel) (pc' := 513) (L' := [.val (.int x0), .val (.int x1), .val (.int x2), .val (.int x3), .val (.int (x0 &&& (7 : Int32))), .val (.ref pf), .val (.ref ur), .val (.ref nsp), .val (.int (1 : Int32)), .val (.ref nm), .val (.int (1 : Int32)), .val (.int (x1 &&& (3 : Int32))), .val (.ref vl), .val (.ref kX), .val (.ref h.size), .val (.int (1 : Int32))]) (S' := [.int (1 : Int32)]) rfl ?_
      refine b_goto C P8 (o := 4) (by decide +kernel) (pc' := 517) (by decide) ?_
      exact r_int C P8 (ty := .boolean) (by simp) rfl (by decide +kernel) (le_ _ _ rfl) (le_ _ _ rfl) ⟨_, rfl, rfl⟩
    · skip
      exact absurd ⟨rfl, rfl⟩ Q8
set_option maxRecDepth 65536 in
set_option maxHeartbeats 4000000 in
theorem t419_t1u (l : Launch) {Z : State} {a0 : Array Value} {n0 : Nat} {h : Heap} {z : Int32} {kX uX kD uD : Addr} {dl : List Int32} (wd : Wd Z a0 z kX uX kD uD dl) (x0 x1 x2 x3 : Int32) (pf ur nsp : Addr) (nm : Addr)  {p : Program} {e : Env} {s : State} {m : MethodId} {args : Array Value} {below : List Frame} {meth : Method} {c : Code} {T : State} (C : Ctx Z a0 consts_1 p s m meth c "com/example/archive_packager/archivepackager/dc/AttributeIsTypePinLaw" "law" code 16 (some .boolean)) (P : Pos Z consts_1 n0 p l e room_1 s m args below meth c T h 11 214) (hu0 : ¬ (x0 &&& (7 : Int32)) = 0) (A : Exa Z h nsp "com/example/archive_packager/archivepackager/xml/Namespace") (G : Fld Z h nsp "com/example/archive_packager/archivepackager/xml/Namespace" "uri" "Ljava/lang/String;" (.ref ur)) (S : Str Z h ur (txt 84)) (Sn : Str Z h nm (txt 88)) :
    Jvm.Own.Run p.tables e below (Jvm.Own.Ends Z consts_1 n0 room_1 below (Ret1 fun v h' => v = .int 1) s) T (fr m 419 [.val (.int x0), .val (.int x1), .val (.int x2), .val (.int x3), .val (.int (x0 &&& (7 : Int32))), .val (.ref pf), .val (.ref ur), .val (.ref nsp), .val (.int (1 : Int32)), .val (.ref nm), .val (.int (1 : Int32)), .val (.int (x1 &&& (3 : Int32))), .unset, .unset, .unset, .unset] []) := by
  obtain ⟨hw, hEL, Sz, hz, YX, XX, GX, SX, YD, XD, GD, SDt, hdl⟩ := id wd
  have wS : ∀ a ∈ Bundle.stringAtoms, a.before a0 Z = true := fun d hd => hw d ((by decide +kernel : ∀ d ∈ Bundle.stringAtoms, d ∈ tables_1) d hd)
  refine blk C P [.iload_n 0, .iconst 5, .ishr, .iconst 1, .iand] (by decide +kernel) (pc' := 424) (L' := [.val (.int x0), .val (.int x1), .val (.int x2), .val (.int x3), .val (.int (x0 &&& (7 : Int32))), .val (.ref pf), .val (.ref ur), .val (.ref nsp), .val (.int (1 : Int32)), .val (.ref nm), .val (.int (1 : Int32)), .val (.int (x1 &&& (3 : Int32))), .unset, .unset, .unset, .unset]) (S' := [.int ((x0 >>> ((5 : Int32) &&& 31)) &&& (1 : Int32))]) rfl ?_
  refine b_if C P (cd := .eq) (o := 8) (by decide +kernel) (pc' := 432) (by decide) (pn := 427) rfl (fun (q1 : ((x0 >>> ((5 : Int32) &&& 31)) &&& (1 : Int32)) = 0) => ?_) (fun (q1 : ¬ ((x0 >>> ((5 : Int32) &&& 31)) &&& (1 : Int32)) = 0) => ?_)
  · skip
    refine blk C P [.iload_n 3, .bipush 24, .ishr, .sipush 255, .iand, .i2c] (by decide +kernel) (pc' := 441) (L' := [.val (.int x0), .val (.int x1), .val (.int x2), .val (.int x3), .val (.int (x0 &&& (7 : Int32))), .val (.ref pf), .val (.ref ur), .val (.ref nsp), .val (.int (1 : Int32)), .val (.ref nm), .val (.int (1 : Int32)), .val (.int (x1 &&& (3 : Int32))), .unset, .unset, .unset, .unset]) (S' := [.int (c16 ((x3 >>> ((24 : Int32) &&& 31)) &&& (255 : Int32)))]) rfl ?_
    refine c_static C P (idx := 9) (y := (⟨"java/lang/String", "valueOf", "(C)Ljava/lang/String;"⟩ : MethodName)) (ybytes := jdk_42_method_139_code) (ymax := 1) (yret := (some (.object "java/lang/String"))) (yrm := ({ frames := 2, cells := 2, slots := 5, locals := 28 } : Room)) (by decide +kernel) (hw _ (List.mem_of_getElem? (i := 0) rfl)) (hw _ (List.mem_of_getElem? (i := 1) rfl)) (hw _ (List.mem_of_getElem? (i := 2) rfl)) (hw _ (List.mem_of_getElem? (i := 3) rfl)) (by decide) [.int (c16 ((x3 >>> ((24 : Int32) &&& 31)) &&& (255 : Int32)))] [] (k_valueOf l hw hEL Sz hz (c16 ((x3 >>> ((24 : Int32) &&& 31)) &&& (255 : Int32))) P.old latv) (le_ _ _ rfl) (W := 0) (le_ _ _ rfl) (by decide +kernel : parseMethodDescriptor "(C)Ljava/lang/String;" = some ⟨[.char], some (.object "java/lang/String")⟩) rfl rfl rfl (le_ _ _ rfl) (le_ _ _ rfl) (le_ _ _ rfl) (pc' := 444) rfl (fun T2 h2 v2 P2 Q2 => ?_)
    replace P2 := P2.more (k' := 13) (n' := 219) (le_ _ _ rfl) (le_ _ _ rfl)
    obtain ⟨b2, rfl, E2, S2⟩ := Q2
    refine blk C P2 [.astore 12] (by decide +kernel) (pc' := 446) (L' := [.val (.int x0), .val (.int x1), .val (.int x2), .val (.int x3), .val (.int (x0 &&& (7 : Int32))), .val (.ref pf), .val (.ref ur), .val (.ref nsp), .val (.int (1 : Int32)), .val (.ref nm), .val (.int (1 : Int32)), .val (.int (x1 &&& (3 : Int32))), .val (.ref b2), .unset, .unset, .unset]) (S' := []) rfl ?_
    exact t446_t1u l wd x0 x1 x2 x3 pf ur nsp nm b2 C (P2.more (k' := 13) (n' := 234) (le_ _ _ rfl) (le_ _ _ rfl)) hu0 (A.ext E2) (G.ext E2) (S.ext E2) (Sn.ext E2)
  · skip
    refine s_ldc C P (idx := 42) (txt 86) (by decide +kernel) (hw _ (List.mem_of_getElem? (i := 86) rfl)) wS (by decide +kernel) (by decide +kernel) (by decide +kernel) (by decide +kernel) (len := 16) (by decide) (by decide) (le_ _ _ rfl) (le_ _ _ rfl) (pc' := 429) rfl (fun T3 h3 a3 P3 E3 S3 => ?_)
    replace P3 := P3.more (k' := 13) (n' := 234) (le_ _ _ rfl) (le_ _ _ rfl)
    refine b_goto C P3 (o := 15) (by decide +kernel) (pc' := 444) (by decide) ?_
    refine blk C P3 [.astore 12] (by decide +kernel) (pc' := 446) (L' := [.val (.int x0), .val (.int x1), .val (.int x2), .val (.int x3), .val (.int (x0 &&& (7 : Int32))), .val (.ref pf), .val (.ref ur), .val (.ref nsp), .val (.int (1 : Int32)), .val (.ref nm), .val (.int (1 : Int32)), .val (.int (x1 &&& (3 : Int32))), .val (.ref a3), .unset, .unset, .unset]) (S' := []) rfl ?_
    exact t446_t1u l wd x0 x1 x2 x3 pf ur nsp nm a3 C (P3.more (k' := 13) (n' := 234) (le_ _ _ rfl) (le_ _ _ rfl)) hu0 (A.ext E3) (G.ext E3) (S.ext E3) (Sn.ext E3)
set_option maxRecDepth 65536 in
set_option maxHeartbeats 4000000 in
theorem t446_t1c (l : Launch) {Z : State} {a0 : Array Value} {n0 : Nat} {h : Heap} {z : Int32} {kX uX kD uD : Addr} {dl : List Int32} (wd : Wd Z a0 z kX uX kD uD dl) (x0 x1 x2 x3 : Int32) (pf ur nsp : Addr) (nm vl : Addr) (c0 c1 c2 c3 : Int32)  {p : Program} {e : Env} {s : State} {m : MethodId} {args : Array Value} {below : List Frame} {meth : Method} {c : Code} {T : State} (C : Ctx Z a0 consts_1 p s m meth c "com/example/archive_packager/archivepackager/dc/AttributeIsTypePinLaw" "law" code 16 (some .boolean)) (P : Pos Z consts_1 n0 p l e room_1 s m args below meth c T h 13 234) (hu0 : ¬ (x0 &&& (7 : Int32)) = 0) (A : Exa Z h nsp "com/example/archive_packager/archivepackager/xml/Namespace") (G : Fld Z h nsp "com/example/archive_packager/archivepackager/xml/Namespace" "uri" "Ljava/lang/String;" (.ref ur)) (S : Str Z h ur (txt 84)) (Sn : Str Z h nm (txt 88)) :
    Jvm.Own.Run p.tables e below (Jvm.Own.Ends Z consts_1 n0 room_1 below (Ret1 fun v h' => v = .int 1) s) T (fr m 446 [.val (.int x0), .val (.int x1), .val (.int x2), .val (.int x3), .val (.int (x0 &&& (7 : Int32))), .val (.ref pf), .val (.ref ur), .val (.ref nsp), .val (.int (1 : Int32)), .val (.ref nm), .val (.int (1 : Int32)), .val (.int (x1 &&& (3 : Int32))), .val (.ref vl), .val (.int c1), .val (.int c2), .val (.int c3)] []) := by
  obtain ⟨hw, hEL, Sz, hz, YX, XX, GX, SX, YD, XD, GD, SDt, hdl⟩ := id wd
  refine blk C P [.iload_n 0, .iconst 4, .ishr, .iconst 1, .iand] (by decide +kernel) (pc' := 451) (L' := [.val (.int x0), .val (.int x1), .val (.int x2), .val (.int x3), .val (.int (x0 &&& (7 : Int32))), .val (.ref pf), .val (.ref ur), .val (.ref nsp), .val (.int (1 : Int32)), .val (.ref nm), .val (.int (1 : Int32)), .val (.int (x1 &&& (3 : Int32))), .val (.ref vl), .val (.int c1), .val (.int c2), .val (.int c3)]) (S' := [.int ((x0 >>> ((4 : Int32) &&& 31)) &&& (1 : Int32))]) rfl ?_
  refine b_if C P (cd := .eq) (o := 9) (by decide +kernel) (pc' := 460) (by decide) (pn := 454) rfl (fun (q1 : ((x0 >>> ((4 : Int32) &&& 31)) &&& (1 : Int32)) = 0) => ?_) (fun (q1 : ¬ ((x0 >>> ((4 : Int32) &&& 31)) &&& (1 : Int32)) = 0) => ?_)
  · skip
    refine blk C P [.aconst_null, .astore 13] (by decide +kernel) (pc' := 463) (L' := [.val (.int x0), .val (.int x1), .val (.int x2), .val (.int x3), .val (.int (x0 &&& (7 : Int32))), .val (.ref pf), .val (.ref ur), .val (.ref nsp), .val (.int (1 : Int32)), .val (.ref nm), .val (.int (1 : Int32)), .val (.int (x1 &&& (3 : Int32))), .val (.ref vl), .val (.null), .val (.int c2), .val (.int c3)]) (S' := []) rfl ?_
    refine s_new C P (idx := 50) (by decide +kernel) (hw _ (List.mem_of_getElem? (i := 30) rfl)) (hw _ (List.mem_of_getElem? (i := 31) rfl)) (hw _ (List.mem_of_getElem? (i := 32) rfl)) (le_ _ _ rfl) (le_ _ _ rfl) (pc' := 466) rfl (fun T2 h2 P2 E2 B2 => ?_)
    replace P2 := P2.more (k' := 14) (n' := 238) (le_ _ _ rfl) (le_ _ _ rfl)
    refine blk C P2 [.dup, .aload 7, .aload 9, .aload 12, .aload 13] (by decide +kernel) (pc' := 475) (L' := [.val (.int x0), .val (.int x1), .val (.int x2), .val (.int x3), .val (.int (x0 &&& (7 : Int32))), .val (.ref pf), .val (.ref ur), .val (.ref nsp), .val (.int (1 : Int32)), .val (.ref nm), .val (.int (1 : Int32)), .val (.int (x1 &&& (3 : Int32))), .val (.ref vl), .val (.null), .val (.int c2), .val (.int c3)]) (S' := [.null, .ref vl, .ref nm, .ref nsp, .ref h.size, .ref h.size]) rfl ?_
    refine c_special C P2 (idx := 52) (y := (⟨"com/example/archive_packager/archivepackager/dc/DcElement$Attribute", "<init>", "(Lcom/example/archive_packager/archivepackager/xml/Namespace;Ljava/lang/String;Ljava/lang/String;Lcom/example/archive_packager/archivepackager/xml/Namespace;)V"⟩ : MethodName)) (ybytes := prog_13_method_1_code) (ymax := 5) (yrm := ({ frames := 2, cells := 0, slots := 0, locals := 24 } : Room)) rfl (by decide +kernel) (hw _ (List.mem_of_getElem? (i := 33) rfl)) (hw _ (List.mem_of_getElem? (i := 34) rfl)) (hw _ (List.mem_of_getElem? (i := 32) rfl)) (hw _ (List.mem_of_getElem? (i := 35) rfl)) (by decide) [.ref nsp, .ref nm, .ref vl, .null] [.ref h.size] (k_att_rn l wd (h.size) nsp nm vl P2.old B2) (le_ _ _ rfl) (W := 1) (le_ _ _ rfl) (by decide +kernel : parseMethodDescriptor "(Lcom/example/archive_packager/archivepackager/xml/Namespace;Ljava/lang/String;Ljava/lang/String;Lcom/example/archive_packager/archivepackager/xml/Namespace;)V" = some ⟨[(.object "com/example/archive_packager/archivepackager/xml/Namespace"), (.object "java/lang/String"), (.object "java/lang/String"), (.object "com/example/archive_packager/archivepackager/xml/Namespace")], none⟩) rfl rfl rfl (le_ _ _ rfl) (le_ _ _ rfl) (le_ _ _ rfl) (pc' := 478) rfl (fun T3 h3 P3 Q3 => ?_)
    replace P3 := P3.more (k' := 14) (n' := 238) (le_ _ _ rfl) (le_ _ _ rfl)
    obtain ⟨K3, A3, F3_0, F3_1⟩ := Q3
    refine blk C P3 [.astore 14, .iload 4] (by decide +kernel) (pc' := 482) (L' := [.val (.int x0), .val (.int x1), .val (.int x2), .val (.int x3), .val (.int (x0 &&& (7 : Int32))), .val (.ref pf), .val (.ref ur), .val (.ref nsp), .val (.int (1 : Int32)), .val (.ref nm), .val (.int (1 : Int32)), .val (.int (x1 &&& (3 : Int32))), .val (.ref vl), .val (.null), .val (.ref h.size), .val (.int c3)]) (S' := [.int (x0 &&& (7 : Int32))]) rfl ?_
    refine b_ifN C P3 (cd := .eq) (o := 17) (by decide +kernel) (pc' := 485) rfl hu0 ?_
    refine blk C P3 [.iload 8] (by decide +kernel) (pc' := 487) (L' := [.val (.int x0), .val (.int x1), .val (.int x2), .val (.int x3), .val (.int (x0 &&& (7 : Int32))), .val (.ref pf), .val (.ref ur), .val (.ref nsp), .val (.int (1 : Int32)), .val (.ref nm), .val (.int (1 : Int32)), .val (.int (x1 &&& (3 : Int32))), .val (.ref vl), .val (.null), .val (.ref h.size), .val (.int c3)]) (S' := [.int (1 : Int32)]) rfl ?_
    refine b_ifN C P3 (cd := .eq) (o := 12) (by decide +kernel) (pc' := 490) rfl (by decide : ¬ (1 : Int32) = 0) ?_
    refine blk C P3 [.iload 10] (by decide +kernel) (pc' := 492) (L' := [.val (.int x0), .val (.int x1), .val (.int x2), .val (.int x3), .val (.int (x0 &&& (7 : Int32))), .val (.ref pf), .val (.ref ur), .val (.ref nsp), .val (.int (1 : Int32)), .val (.ref nm), .val (.int (1 : Int32)), .val (.int (x1 &&& (3 : Int32))), .val (.ref vl), .val (.null), .val (.ref h.size), .val (.int c3)]) (S' := [.int (1 : Int32)]) rfl ?_
    refine b_ifN C P3 (cd := .eq) (o := 7) (by decide +kernel) (pc' := 495) rfl (by decide : ¬ (1 : Int32) = 0) ?_
    refine blk C P3 [.iconst 1] (by decide +kernel) (pc' := 496) (L' := [.val (.int x0), .val (.int x1), .val (.int x2), .val (.int x3), .val (.int (x0 &&& (7 : Int32))), .val (.ref pf), .val (.ref ur), .val (.ref nsp), .val (.int (1 : Int32)), .val (.ref nm), .val (.int (1 : Int32)), .val (.int (x1 &&& (3 : Int32))), .val (.ref vl), .val (.null), .val (.ref h.size), .val (.int c3)]) (S' := [.int (1 : Int32)]) rfl ?_
    refine b_goto C P3 (o := 4) (by decide +kernel) (pc' := 500) (by decide) ?_
    refine blk C P3 [.istore 15, .aload 14] (by decide +kernel) (pc' := 504) (L' := [.val (.int x0), .val (.int x1), .val (.int x2), .val (.int x3), .val (.int (x0 &&& (7 : Int32))), .val (.ref pf), .val (.ref ur), .val (.ref nsp), .val (.int (1 : Int32)), .val (.ref nm), .val (.int (1 : Int32)), .val (.int (x1 &&& (3 : Int32))), .val (.ref vl), .val (.null), .val (.ref h.size), .val (.int (1 : Int32))]) (S' := [.ref h.size]) rfl ?_
    refine c_virtual C P3 (idx := 55) (y := (⟨"com/example/archive_packager/archivepackager/dc/DcElement$Attribute", "isType", "()Z"⟩ : MethodName)) (K0 := "com/example/archive_packager/archivepackager/dc/DcElement$Attribute") (ybytes := prog_13_method_2_code) (ymax := 1) (yret := (some .boolean)) (yrm := ({ frames := 2, cells := 2, slots := 20, locals := 28 } : Room)) (by decide +kernel) (hw _ (List.mem_of_getElem? (i := 50) rfl)) (hw _ (List.mem_of_getElem? (i := 51) rfl)) (hw _ (List.mem_of_getElem? (i := 53) rfl)) (hw _ (List.mem_of_getElem? (i := 52) rfl)) (hw _ (List.mem_of_getElem? (i := 32) rfl)) (hw _ (List.mem_of_getElem? (i := 54) rfl)) (by decide) A3 [] [] (k_is_r l wd (h.size) nsp ur nm P3.old F3_0 F3_1 (A.ext (exK E2 K3 (Nat.le_refl _))) (G.ext (exK E2 K3 (Nat.le_refl _))) (S.ext (exK E2 K3 (Nat.le_refl _))) (Sn.ext (exK E2 K3 (Nat.le_refl _)))) (le_ _ _ rfl) (W := 0) (le_ _ _ rfl) (by decide +kernel : parseMethodDescriptor "()Z" = some ⟨[], some .boolean⟩) rfl rfl rfl (le_ _ _ rfl) (le_ _ _ rfl) (le_ _ _ rfl) (pc' := 507) rfl (fun T4 h4 v4 P4 Q4 => ?_)
    replace P4 := P4.more (k' := 16) (n' := 258) (le_ _ _ rfl) (le_ _ _ rfl)
    obtain ⟨Q4, E4⟩ := Q4
    rcases Q4 with ⟨rfl, Q4⟩ | ⟨rfl, Q4⟩
    · skip
      refine blk C P4 [.iload 15] (by decide +kernel) (pc' := 509) (L' := [.val (.int x0), .val (.int x1), .val (.int x2), .val (.int x3), .val (.int (x0 &&& (7 : Int32))), .val (.ref pf), .val (.ref ur), .val (.ref nsp), .val (.int (1 : Int32)), .val (.ref nm), .val (.int (1 : Int32)), .val (.int (x1 &&& (3 : Int32))), .val (.ref vl), .val (.null), .val (.ref h.size), .val (.int (1 : Int32))]) (S' := [.int (1 : Int32), .int (1 : Int32)]) rfl ?_
      refine b_cmN C P4 (cd := .ne) (o := 7) (by decide +kernel) (pc' := 512) rfl (by decide : (1 : Int32) = (1 : Int32)) ?_
      refine blk C P4 [.iconst 1] (by decide +kernel) (pc' := 513) (L' := [.val (.int x0), .val (.int x1), .val (.int x2), .val (.int x3), .val (.int (x0 &&& (7 : Int32))), .val (.ref pf), .val (.ref ur), .val (.ref nsp), .val (.int (1 : Int32)), .val (.ref nm), .val (.int (1 : Int32)), .val (.int (x1 &&& (3 : Int32))), .val (.ref vl), .val (.null), .val (.ref h.size), .val (.int (1 : Int32))]) (S' := [.int (1 : Int32)]) rfl ?_
      refine b_goto C P4 (o := 4) (by decide +kernel) (pc' := 517) (by decide) ?_
      exact r_int C P4 (ty := .boolean) (by simp) rfl (by decide +kernel) (le_ _ _ rfl) (le_ _ _ rfl) ⟨_, rfl, rfl⟩
    · skip
      exact absurd ⟨rfl, rfl⟩ Q4
  · skip
    refine s_gets C P (idx := 15) (by decide +kernel) (hw _ (List.mem_of_getElem? (i := 87) rfl)) YX (pc' := 457) rfl (fun T5 P5 => ?_)
    refine b_goto C P5 (o := 4) (by decide +kernel) (pc' := 461) (by decide) ?_
    refine blk C P5 [.astore 13] (by decide +kernel) (pc' := 463) (L' := [.val (.int x0), .val (.int x1), .val (.int x2), .val (.int x3), .val (.int (x0 &&& (7 : Int32))), .val (.ref pf), .val (.ref ur), .val (.ref nsp), .val (.int (1 : Int32)), .val (.ref nm), .val (.int (1 : Int32)), .val (.int (x1 &&& (3 : Int32))), .val (.ref vl), .val (.ref kX), .val (.int c2), .val (.int c3)]) (S' := []) rfl ?_
    refine s_new C P5 (idx := 50) (by decide +kernel) (hw _ (List.mem_of_getElem? (i := 30) rfl)) (hw _ (List.mem_of_getElem? (i := 31) rfl)) (hw _ (List.mem_of_getElem? (i := 32) rfl)) (le_ _ _ rfl) (le_ _ _ rfl) (pc' := 466) rfl (fun T6 h6 P6 E6 B6 => ?_)
    replace P6 := P6.more (k' := 14) (n' := 238) (le_ _ _ rfl) (le_ _ _ rfl)
    refine blk C P6 [.dup, .aload 7, .aload 9, .aload 12, .aload 13] (by decide +kernel) (pc' := 475) (L' := [.val (.int x0), .val (.int x1), .val (.int x2), .val (.int x3), .val (.int (x0 &&& (7 : Int32))), .val (.ref pf), .val (.ref ur), .val (.ref nsp), .val (.int (1 : Int32)), .val (.ref nm), .val (.int (1 : Int32)), .val (.int (x1 &&& (3 : Int32))), .val (.ref vl), .val (.ref kX), .val (.int c2), .val (.int c3)]) (S' := [.ref kX, .ref vl, .ref nm, .ref nsp, .ref h.size, .ref h.size]) rfl ?_
    refine c_special C P6 (idx := 52) (y := (⟨"com/example/archive_packager/archivepackager/dc/DcElement$Attribute", "<init>", "(Lcom/example/archive_packager/archivepackager/xml/Namespace;Ljava/lang/String;Ljava/lang/String;Lcom/example/archive_packager/archivepackager/xml/Namespace;)V"⟩ : MethodName)) (ybytes := prog_13_method_1_code) (ymax := 5) (yrm := ({ frames := 2, cells := 0, slots := 0, locals := 24 } : Room)) rfl (by decide +kernel) (hw _ (List.mem_of_getElem? (i := 33) rfl)) (hw _ (List.mem_of_getElem? (i := 34) rfl)) (hw _ (List.mem_of_getElem? (i := 32) rfl)) (hw _ (List.mem_of_getElem? (i := 35) rfl)) (by decide) [.ref nsp, .ref nm, .ref vl, .ref kX] [.ref h.size] (k_att_rr l wd (h.size) nsp nm vl kX P6.old B6) (le_ _ _ rfl) (W := 1) (le_ _ _ rfl) (by decide +kernel : parseMethodDescriptor "(Lcom/example/archive_packager/archivepackager/xml/Namespace;Ljava/lang/String;Ljava/lang/String;Lcom/example/archive_packager/archivepackager/xml/Namespace;)V" = some ⟨[(.object "com/example/archive_packager/archivepackager/xml/Namespace"), (.object "java/lang/String"), (.object "java/lang/String"), (.object "com/example/archive_packager/archivepackager/xml/Namespace")], none⟩) rfl rfl rfl (le_ _ _ rfl) (le_ _ _ rfl) (le_ _ _ rfl) (pc' := 478) rfl (fun T7 h7 P7 Q7 => ?_)
    replace P7 := P7.more (k' := 14) (n' := 238) (le_ _ _ rfl) (le_ _ _ rfl)
    obtain ⟨K7, A7, F7_0, F7_1⟩ := Q7
    refine blk C P7 [.astore 14, .iload 4] (by decide +kernel) (pc' := 482) (L' := [.val (.int x0), .val (.int x1), .val (.int x2), .val (.int x3), .val (.int (x0 &&& (7 : Int32))), .val (.ref pf), .val (.ref ur), .val (.ref nsp), .val (.int (1 : Int32)), .val (.ref nm), .val (.int (1 : Int32)), .val (.int (x1 &&& (3 : Int32))), .val (.ref vl), .val (.ref kX), .val (.ref h.size), .val (.int c3)]) (S' := [.int (x0 &&& (7 : Int32))]) rfl ?_
    refine b_ifN C P7 (cd := .eq) (o := 17) (by decide +kernel) (pc' := 485) rfl hu0 ?_
    refine blk C P7 [.iload 8] (by decide +kernel) (pc' := 487) (L' := [.val (.int x0), .val (.int x1), .val (.int x2), .val (.int x3), .val (.int (x0 &&& (7 : Int32))), .val (.ref pf), .val (.ref ur), .val (.ref nsp), .val (.int (1 : Int32)), .val (.ref nm), .val (.int (1 : Int32)), .val (.int (x1 &&& (3 : Int32))), .val (.ref vl), .val (.ref kX), .val (.ref h.size), .val (.int c3)]) (S' := [.int (1 : Int32)]) rfl ?_
    refine b_ifN C P7 (cd := .eq) (o := 12) (by decide +kernel) (pc' := 490) rfl (by decide : ¬ (1 : Int32) = 0) ?_
    refine blk C P7 [.iload 10] (by decide +kernel) (pc' := 492) (L' := [.val (.int x0), .val (.int x1), .val (.int x2), .val (.int x3), .val (.int (x0 &&& (7 : Int32))), .val (.ref pf), .val (.ref ur), .val (.ref nsp), .val (.int (1 : Int32)), .val (.ref nm), .val (.int (1 : Int32)), .val (.int (x1 &&& (3 : Int32))), .val (.ref vl), .val (.ref kX), .val (.ref h.size), .val (.int c3)]) (S' := [.int (1 : Int32)]) rfl ?_
    refine b_ifN C P7 (cd := .eq) (o := 7) (by decide +kernel) (pc' := 495) rfl (by decide : ¬ (1 : Int32) = 0) ?_
    refine blk C P7 [.iconst 1] (by decide +kernel) (pc' := 496) (L' := [.val (.int x0), .val (.int x1), .val (.int x2), .val (.int x3), .val (.int (x0 &&& (7 : Int32))), .val (.ref pf), .val (.ref ur), .val (.ref nsp), .val (.int (1 : Int32)), .val (.ref nm), .val (.int (1 : Int32)), .val (.int (x1 &&& (3 : Int32))), .val (.ref vl), .val (.ref kX), .val (.ref h.size), .val (.int c3)]) (S' := [.int (1 : Int32)]) rfl ?_
    refine b_goto C P7 (o := 4) (by decide +kernel) (pc' := 500) (by decide) ?_
    refine blk C P7 [.istore 15, .aload 14] (by decide +kernel) (pc' := 504) (L' := [.val (.int x0), .val (.int x1), .val (.int x2), .val (.int x3), .val (.int (x0 &&& (7 : Int32))), .val (.ref pf), .val (.ref ur), .val (.ref nsp), .val (.int (1 : Int32)), .val (.ref nm), .val (.int (1 : Int32)), .val (.int (x1 &&& (3 : Int32))), .val (.ref vl), .val (.ref kX), .val (.ref h.size), .val (.int (1 : Int32))]) (S' := [.ref h.size]) rfl ?_
    refine c_virtual C P7 (idx := 55) (y := (⟨"com/example/archive_packager/archivepackager/dc/DcElement$Attribute", "isType", "()Z"⟩ : MethodName)) (K0 := "com/example/archive_packager/archivepackager/dc/DcElement$Attribute") (ybytes := prog_13_method_2_code) (ymax := 1) (yret := (some .boolean)) (yrm := ({ frames := 2, cells := 2, slots := 20, locals := 28 } : Room)) (by decide +kernel) (hw _ (List.mem_of_getElem? (i := 50) rfl)) (hw _ (List.mem_of_getElem? (i := 51) rfl)) (hw _ (List.mem_of_getElem? (i := 53) rfl)) (hw _ (List.mem_of_getElem? (i := 52) rfl)) (hw _ (List.mem_of_getElem? (i := 32) rfl)) (hw _ (List.mem_of_getElem? (i := 54) rfl)) (by decide) A7 [] [] (k_is_r l wd (h.size) nsp ur nm P7.old F7_0 F7_1 (A.ext (exK E6 K7 (Nat.le_refl _))) (G.ext (exK E6 K7 (Nat.le_refl _))) (S.ext (exK E6 K7 (Nat.le_refl _))) (Sn.ext (exK E6 K7 (Nat.le_refl _)))) (le_ _ _ rfl) (W := 0) (le_ _ _ rfl) (by decide +kernel : parseMethodDescriptor "()Z" = some ⟨[], some .boolean⟩) rfl rfl rfl (le_ _ _ rfl) (le_ _ _ rfl) (le_ _ _ rfl) (pc' := 507) rfl (fun T8 h8 v8 P8 Q8 => ?_)
    replace P8 := P8.more (k' := 16) (n' := 258) (le_ _ _ rfl) (le_ _ _ rfl)
    obtain ⟨Q8, E8⟩ := Q8
    rcases Q8 with ⟨rfl, Q8⟩ | ⟨rfl, Q8⟩
    · skip
      refine blk C P8 [.iload 15] (by decide +kernel) (pc' := 509) (L' := [.val (.int x0), .val (.int x1), .val (.int x2), .val (.int x3), .val (.int (x0 &&& (7 : Int32))), .val (.ref pf), .val (.ref ur), .val (.ref nsp), .val (.int (1 : Int32)), .val (.ref nm), .val (.int (1 : Int32)), .val (.int (x1 &&& (3 : Int32))), .val (.ref vl), .val (.ref kX), .val (.ref h.size), .val (.int (1 : Int32))]) (S' := [.int (1 : Int32), .int (1 : Int32)]) rfl ?_
      refine b_cmN C P8 (cd := .ne) (o := 7) (by decide +kernel) (pc' := 512) rfl (by decide : (1 : Int32) = (1 : Int32)) ?_
      refine blk C P8 [.iconst 1] (by decide +kernel) (pc' := 513) (L' := [.val (.int x0), .val (.int x1), .val (.int x2), .val (.int x3), .val (.int (x0 &&& (7 : Int32))), .val (.ref pf), .val (.ref ur), .val (.ref nsp), .val (.int (1 : Int32)), .val (.ref nm), .val (.int (1 : Int32)), .val (.int (x1 &&& (3 : Int32))), .val (.ref vl), .val (.ref kX), .val (.ref h.size), .val (.int (1 : Int32))]) (S' := [.int (1 : Int32)]) rfl ?_
      refine b_goto C P8 (o := 4) (by decide +kernel) (pc' := 517) (by decide) ?_
      exact r_int C P8 (ty := .boolean) (by simp) rfl (by decide +kernel) (le_ _ _ rfl) (le_ _ _ rfl) ⟨_, rfl, rfl⟩
    · skip
      exact absurd ⟨rfl, rfl⟩ Q8
set_option maxRecDepth 65536 in
set_option maxHeartbeats 4000000 in
theorem t419_t1c (l : Launch) {Z : State} {a0 : Array Value} {n0 : Nat} {h : Heap} {z : Int32} {kX uX kD uD : Addr} {dl : List Int32} (wd : Wd Z a0 z kX uX kD uD dl) (x0 x1 x2 x3 : Int32) (pf ur nsp : Addr) (nm : Addr) (c0 c1 c2 c3 : Int32)  {p : Program} {e : Env} {s : State} {m : MethodId} {args : Array Value} {below : List Frame} {meth : Method} {c : Code} {T : State} (C : Ctx Z a0 consts_1 p s m meth c "com/example/archive_packager/archivepackager/dc/AttributeIsTypePinLaw" "law" code 16 (some .boolean)) (P : Pos Z consts_1 n0 p l e room_1 s m args below meth c T h 11 214) (hu0 : ¬ (x0 &&& (7 : Int32)) = 0) (A : Exa Z h nsp "com/example/archive_packager/archivepackager/xml/Namespace") (G : Fld Z h nsp "com/example/archive_packager/archivepackager/xml/Namespace" "uri" "Ljava/lang/String;" (.ref ur)) (S : Str Z h ur (txt 84)) (Sn : Str Z h nm (txt 88)) :
    Jvm.Own.Run p.tables e below (Jvm.Own.Ends Z consts_1 n0 room_1 below (Ret1 fun v h' => v = .int 1) s) T (fr m 419 [.val (.int x0), .val (.int x1), .val (.int x2), .val (.int x3), .val (.int (x0 &&& (7 : Int32))), .val (.ref pf), .val (.ref ur), .val (.ref nsp), .val (.int (1 : Int32)), .val (.ref nm), .val (.int (1 : Int32)), .val (.int (x1 &&& (3 : Int32))), .val (.int c0), .val (.int c1), .val (.int c2), .val (.int c3)] []) := by
  obtain ⟨hw, hEL, Sz, hz, YX, XX, GX, SX, YD, XD, GD, SDt, hdl⟩ := id wd
  have wS : ∀ a ∈ Bundle.stringAtoms, a.before a0 Z = true := fun d hd => hw d ((by decide +kernel : ∀ d ∈ Bundle.stringAtoms, d ∈ tables_1) d hd)
  refine blk C P [.iload_n 0, .iconst 5, .ishr, .iconst 1, .iand] (by decide +kernel) (pc' := 424) (L' := [.val (.int x0), .val (.int x1), .val (.int x2), .val (.int x3), .val (.int (x0 &&& (7 : Int32))), .val (.ref pf), .val (.ref ur), .val (.ref nsp), .val (.int (1 : Int32)), .val (.ref nm), .val (.int (1 : Int32)), .val (.int (x1 &&& (3 : Int32))), .val (.int c0), .val (.int c1), .val (.int c2), .val (.int c3)]) (S' := [.int ((x0 >>> ((5 : Int32) &&& 31)) &&& (1 : Int32))]) rfl ?_
  refine b_if C P (cd := .eq) (o := 8) (by decide +kernel) (pc' := 432) (by decide) (pn := 427) rfl (fun (q1 : ((x0 >>> ((5 : Int32) &&& 31)) &&& (1 : Int32)) = 0) => ?_) (fun (q1 : ¬ ((x0 >>> ((5 : Int32) &&& 31)) &&& (1 : Int32)) = 0) => ?_)
  · skip
    refine blk C P [.iload_n 3, .bipush 24, .ishr, .sipush 255, .iand, .i2c] (by decide +kernel) (pc' := 441) (L' := [.val (.int x0), .val (.int x1), .val (.int x2), .val (.int x3), .val (.int (x0 &&& (7 : Int32))), .val (.ref pf), .val (.ref ur), .val (.ref nsp), .val (.int (1 : Int32)), .val (.ref nm), .val (.int (1 : Int32)), .val (.int (x1 &&& (3 : Int32))), .val (.int c0), .val (.int c1), .val (.int c2), .val (.int c3)]) (S' := [.int (c16 ((x3 >>> ((24 : Int32) &&& 31)) &&& (255 : Int32)))]) rfl ?_
    refine c_static C P (idx := 9) (y := (⟨"java/lang/String", "valueOf", "(C)Ljava/lang/String;"⟩ : MethodName)) (ybytes := jdk_42_method_139_code) (ymax := 1) (yret := (some (.object "java/lang/String"))) (yrm := ({ frames := 2, cells := 2, slots := 5, locals := 28 } : Room)) (by decide +kernel) (hw _ (List.mem_of_getElem? (i := 0) rfl)) (hw _ (List.mem_of_getElem? (i := 1) rfl)) (hw _ (List.mem_of_getElem? (i := 2) rfl)) (hw _ (List.mem_of_getElem? (i := 3) rfl)) (by decide) [.int (c16 ((x3 >>> ((24 : Int32) &&& 31)) &&& (255 : Int32)))] [] (k_valueOf l hw hEL Sz hz (c16 ((x3 >>> ((24 : Int32) &&& 31)) &&& (255 : Int32))) P.old latv) (le_ _ _ rfl) (W := 0) (le_ _ _ rfl) (by decide +kernel : parseMethodDescriptor "(C)Ljava/lang/String;" = some ⟨[.char], some (.object "java/lang/String")⟩) rfl rfl rfl (le_ _ _ rfl) (le_ _ _ rfl) (le_ _ _ rfl) (pc' := 444) rfl (fun T2 h2 v2 P2 Q2 => ?_)
    replace P2 := P2.more (k' := 13) (n' := 219) (le_ _ _ rfl) (le_ _ _ rfl)
    obtain ⟨b2, rfl, E2, S2⟩ := Q2
    refine blk C P2 [.astore 12] (by decide +kernel) (pc' := 446) (L' := [.val (.int x0), .val (.int x1), .val (.int x2), .val (.int x3), .val (.int (x0 &&& (7 : Int32))), .val (.ref pf), .val (.ref ur), .val (.ref nsp), .val (.int (1 : Int32)), .val (.ref nm), .val (.int (1 : Int32)), .val (.int (x1 &&& (3 : Int32))), .val (.ref b2), .val (.int c1), .val (.int c2), .val (.int c3)]) (S' := []) rfl ?_
    exact t446_t1c l wd x0 x1 x2 x3 pf ur nsp nm b2 c0 c1 c2 c3 C (P2.more (k' := 13) (n' := 234) (le_ _ _ rfl) (le_ _ _ rfl)) hu0 (A.ext E2) (G.ext E2) (S.ext E2) (Sn.ext E2)
  · skip
    refine s_ldc C P (idx := 42) (txt 86) (by decide +kernel) (hw _ (List.mem_of_getElem? (i := 86) rfl)) wS (by decide +kernel) (by decide +kernel) (by decide +kernel) (by decide +kernel) (len := 16) (by decide) (by decide) (le_ _ _ rfl) (le_ _ _ rfl) (pc' := 429) rfl (fun T3 h3 a3 P3 E3 S3 => ?_)
    replace P3 := P3.more (k' := 13) (n' := 234) (le_ _ _ rfl) (le_ _ _ rfl)
    refine b_goto C P3 (o := 15) (by decide +kernel) (pc' := 444) (by decide) ?_
    refine blk C P3 [.astore 12] (by decide +kernel) (pc' := 446) (L' := [.val (.int x0), .val (.int x1), .val (.int x2), .val (.int x3), .val (.int (x0 &&& (7 : Int32))), .val (.ref pf), .val (.ref ur), .val (.ref nsp), .val (.int (1 : Int32)), .val (.ref nm), .val (.int (1 : Int32)), .val (.int (x1 &&& (3 : Int32))), .val (.ref a3), .val (.int c1), .val (.int c2), .val (.int c3)]) (S' := []) rfl ?_
    exact t446_t1c l wd x0 x1 x2 x3 pf ur nsp nm a3 c0 c1 c2 c3 C (P3.more (k' := 13) (n' := 234) (le_ _ _ rfl) (le_ _ _ rfl)) hu0 (A.ext E3) (G.ext E3) (S.ext E3) (Sn.ext E3)
set_option maxRecDepth 65536 in
set_option maxHeartbeats 4000000 in
theorem t446_t0u (l : Launch) {Z : State} {a0 : Array Value} {n0 : Nat} {h : Heap} {z : Int32} {kX uX kD uD : Addr} {dl : List Int32} (wd : Wd Z a0 z kX uX kD uD dl) (x0 x1 x2 x3 : Int32) (pf ur nsp : Addr) (nm vl : Addr)  {nms : List Int32} {p : Program} {e : Env} {s : State} {m : MethodId} {args : Array Value} {below : List Frame} {meth : Method} {c : Code} {T : State} (C : Ctx Z a0 consts_1 p s m meth c "com/example/archive_packager/archivepackager/dc/AttributeIsTypePinLaw" "law" code 16 (some .boolean)) (P : Pos Z consts_1 n0 p l e room_1 s m args below meth c T h 13 234) (hu0 : ¬ (x0 &&& (7 : Int32)) = 0) (A : Exa Z h nsp "com/example/archive_packager/archivepackager/xml/Namespace") (G : Fld Z h nsp "com/example/archive_packager/archivepackager/xml/Namespace" "uri" "Ljava/lang/String;" (.ref ur)) (S : Str Z h ur (txt 84)) (Sn : Str Z h nm nms) (hn : ¬ nms = (txt 88)) :
    Jvm.Own.Run p.tables e below (Jvm.Own.Ends Z consts_1 n0 room_1 below (Ret1 fun v h' => v = .int 1) s) T (fr m 446 [.val (.int x0), .val (.int x1), .val (.int x2), .val (.int x3), .val (.int (x0 &&& (7 : Int32))), .val (.ref pf), .val (.ref ur), .val (.ref nsp), .val (.int (1 : Int32)), .val (.ref nm), .val (.int (0 : Int32)), .val (.int (x1 &&& (3 : Int32))), .val (.ref vl), .unset, .unset, .unset] []) := by
  obtain ⟨hw, hEL, Sz, hz, YX, XX, GX, SX, YD, XD, GD, SDt, hdl⟩ := id wd
  refine blk C P [.iload_n 0, .iconst 4, .ishr, .iconst 1, .iand] (by decide +kernel) (pc' := 451) (L' := [.val (.int x0), .val (.int x1), .val (.int x2), .val (.int x3), .val (.int (x0 &&& (7 : Int32))), .val (.ref pf), .val (.ref ur), .val (.ref nsp), .val (.int (1 : Int32)), .val (.ref nm), .val (.int (0 : Int32)), .val (.int (x1 &&& (3 : Int32))), .val (.ref vl), .unset, .unset, .unset]) (S' := [.int ((x0 >>> ((4 : Int32) &&& 31)) &&& (1 : Int32))]) rfl ?_
  refine b_if C P (cd := .eq) (o := 9) (by decide +kernel) (pc' := 460) (by decide) (pn := 454) rfl (fun (q1 : ((x0 >>> ((4 : Int32) &&& 31)) &&& (1 : Int32)) = 0) => ?_) (fun (q1 : ¬ ((x0 >>> ((4 : Int32) &&& 31)) &&& (1 : Int32)) = 0) => ?_)
  · skip
    refine blk C P [.aconst_null, .astore 13] (by decide +kernel) (pc' := 463) (L' := [.val (.int x0), .val (.int x1), .val (.int x2), .val (.int x3), .val (.int (x0 &&& (7 : Int32))), .val (.ref pf), .val (.ref ur), .val (.ref nsp), .val (.int (1 : Int32)), .val (.ref nm), .val (.int (0 : Int32)), .val (.int (x1 &&& (3 : Int32))), .val (.ref vl), .val (.null), .unset, .unset]) (S' := []) rfl ?_
    refine s_new C P (idx := 50) (by decide +kernel) (hw _ (List.mem_of_getElem? (i := 30) rfl)) (hw _ (List.mem_of_getElem? (i := 31) rfl)) (hw _ (List.mem_of_getElem? (i := 32) rfl)) (le_ _ _ rfl) (le_ _ _ rfl) (pc' := 466) rfl (fun T2 h2 P2 E2 B2 => ?_)
    replace P2 := P2.more (k' := 14) (n' := 238) (le_ _ _ rfl) (le_ _ _ rfl)
    refine blk C P2 [.dup, .aload 7, .aload 9, .aload 12, .aload 13] (by decide +kernel) (pc' := 475) (L' := [.val (.int x0), .val (.int x1), .val (.int x2), .val (.int x3), .val (.int (x0 &&& (7 : Int32))), .val (.ref pf), .val (.ref ur), .val (.ref nsp), .val (.int (1 : Int32)), .val (.ref nm), .val (.int (0 : Int32)), .val (.int (x1 &&& (3 : Int32))), .val (.ref vl), .val (.null), .unset, .unset]) (S' := [.null, .ref vl, .ref nm, .ref nsp, .ref h.size, .ref h.size]) rfl ?_
    refine c_special C P2 (idx := 52) (y := (⟨"com/example/archive_packager/archivepackager/dc/DcElement$Attribute", "<init>", "(Lcom/example/archive_packager/archivepackager/xml/Namespace;Ljava/lang/String;Ljava/lang/String;Lcom/example/archive_packager/archivepackager/xml/Namespace;)V"⟩ : MethodName)) (ybytes := prog_13_method_1_code) (ymax := 5) (yrm := ({ frames := 2, cells := 0, slots := 0, locals := 24 } : Room)) rfl (by decide +kernel) (hw _ (List.mem_of_getElem? (i := 33) rfl)) (hw _ (List.mem_of_getElem? (i := 34) rfl)) (hw _ (List.mem_of_getElem? (i := 32) rfl)) (hw _ (List.mem_of_getElem? (i := 35) rfl)) (by decide) [.ref nsp, .ref nm, .ref vl, .null] [.ref h.size] (k_att_rn l wd (h.size) nsp nm vl P2.old B2) (le_ _ _ rfl) (W := 1) (le_ _ _ rfl) (by decide +kernel : parseMethodDescriptor "(Lcom/example/archive_packager/archivepackager/xml/Namespace;Ljava/lang/String;Ljava/lang/String;Lcom/example/archive_packager/archivepackager/xml/Namespace;)V" = some ⟨[(.object "com/example/archive_packager/archivepackager/xml/Namespace"), (.object "java/lang/String"), (.object "java/lang/String"), (.object "com/example/archive_packager/archivepackager/xml/Namespace")], none⟩) rfl rfl rfl (le_ _ _ rfl) (le_ _ _ rfl) (le_ _ _ rfl) (pc' := 478) rfl (fun T3 h3 P3 Q3 => ?_)
    replace P3 := P3.more (k' := 14) (n' := 238) (le_ _ _ rfl) (le_ _ _ rfl)
    obtain ⟨K3, A3, F3_0, F3_1⟩ := Q3
    refine blk C P3 [.astore 14, .iload 4] (by decide +kernel) (pc' := 482) (L' := [.val (.int x0), .val (.int x1), .val (.int x2), .val (.int x3), .val (.int (x0 &&& (7 : Int32))), .val (.ref pf), .val (.ref ur), .val (.ref nsp), .val (.int (1 : Int32)), .val (.ref nm), .val (.int (0 : Int32)), .val (.int (x1 &&& (3 : Int32))), .val (.ref vl), .val (.null), .val (.ref h.size), .unset]) (S' := [.int (x0 &&& (7 : Int32))]) rfl ?_
    refine b_ifN C P3 (cd := .eq) (o := 17) (by decide +kernel) (pc' := 485) rfl hu0 ?_
    refine blk C P3 [.iload 8] (by decide +kernel) (pc' := 487) (L' := [.val (.int x0), .val (.int x1), .val (.int x2), .val (.int x3), .val (.int (x0 &&& (7 : Int32))), .val (.ref pf), .val (.ref ur), .val (.ref nsp), .val (.int (1 : Int32)), .val (.ref nm), .val (.int (0 : Int32)), .val (.int (x1 &&& (3 : Int32))), .val (.ref vl), .val (.null), .val (.ref h.size), .unset]) (S' := [.int (1 : Int32)]) rfl ?_
    refine b_ifN C P3 (cd := .eq) (o := 12) (by decide +kernel) (pc' := 490) rfl (by decide : ¬ (1 : Int32) = 0) ?_
    refine blk C P3 [.iload 10] (by decide +kernel) (pc' := 492) (L' := [.val (.int x0), .val (.int x1), .val (.int x2), .val (.int x3), .val (.int (x0 &&& (7 : Int32))), .val (.ref pf), .val (.ref ur), .val (.ref nsp), .val (.int (1 : Int32)), .val (.ref nm), .val (.int (0 : Int32)), .val (.int (x1 &&& (3 : Int32))), .val (.ref vl), .val (.null), .val (.ref h.size), .unset]) (S' := [.int (0 : Int32)]) rfl ?_
    refine b_ifY C P3 (cd := .eq) (o := 7) (by decide +kernel) (pc' := 499) (by decide) (by decide : (0 : Int32) = 0) ?_
    refine blk C P3 [.iconst 0, .istore 15, .aload 14] (by decide +kernel) (pc' := 504) (L' := [.val (.int x0), .val (.int x1), .val (.int x2), .val (.int x3), .val (.int (x0 &&& (7 : Int32))), .val (.ref pf), .val (.ref ur), .val (.ref nsp), .val (.int (1 : Int32)), .val (.ref nm), .val (.int (0 : Int32)), .val (.int (x1 &&& (3 : Int32))), .val (.ref vl), .val (.null), .val (.ref h.size), .val (.int (0 : Int32))]) (S' := [.ref h.size]) rfl ?_
    refine c_virtual C P3 (idx := 55) (y := (⟨"com/example/archive_packager/archivepackager/dc/DcElement$Attribute", "isType", "()Z"⟩ : MethodName)) (K0 := "com/example/archive_packager/archivepackager/dc/DcElement$Attribute") (ybytes := prog_13_method_2_code) (ymax := 1) (yret := (some .boolean)) (yrm := ({ frames := 2, cells := 2, slots := 20, locals := 28 } : Room)) (by decide +kernel) (hw _ (List.mem_of_getElem? (i := 50) rfl)) (hw _ (List.mem_of_getElem? (i := 51) rfl)) (hw _ (List.mem_of_getElem? (i := 53) rfl)) (hw _ (List.mem_of_getElem? (i := 52) rfl)) (hw _ (List.mem_of_getElem? (i := 32) rfl)) (hw _ (List.mem_of_getElem? (i := 54) rfl)) (by decide) A3 [] [] (k_is_r l wd (h.size) nsp ur nm P3.old F3_0 F3_1 (A.ext (exK E2 K3 (Nat.le_refl _))) (G.ext (exK E2 K3 (Nat.le_refl _))) (S.ext (exK E2 K3 (Nat.le_refl _))) (Sn.ext (exK E2 K3 (Nat.le_refl _)))) (le_ _ _ rfl) (W := 0) (le_ _ _ rfl) (by decide +kernel : parseMethodDescriptor "()Z" = some ⟨[], some .boolean⟩) rfl rfl rfl (le_ _ _ rfl) (le_ _ _ rfl) (le_ _ _ rfl) (pc' := 507) rfl (fun T4 h4 v4 P4 Q4 => ?_)
    replace P4 := P4.more (k' := 16) (n' := 258) (le_ _ _ rfl) (le_ _ _ rfl)
    obtain ⟨Q4, E4⟩ := Q4
    rcases Q4 with ⟨rfl, Q4⟩ | ⟨rfl, Q4⟩
    · skip
      exact absurd Q4 (fun z => hn z.2)
    · skip
      refine blk C P4 [.iload 15] (by decide +kernel) (pc' := 509) (L' := [.val (.int x0), .val (.int x1), .val (.int x2), .val (.int x3), .val (.int (x0 &&& (7 : Int32))), .val (.ref pf), .val (.ref ur), .val (.ref nsp), .val (.int (1 : Int32)), .val (.ref nm), .val (.int (0 : Int32)), .val (.int (x1 &&& (3 : Int32))), .val (.ref vl), .val (.null), .val (.ref h.size), .val (.int (0 : Int32))]) (S' := [.int (0 : Int32), .int (0 : Int32)]) rfl ?_
      refine b_cmN C P4 (cd := .ne) (o := 7) (by decide +kernel) (pc' := 512) rfl (by decide : (0 : Int32) = (0 : Int32)) ?_
      refine blk C P4 [.iconst 1] (by decide +kernel) (pc' := 513) (L' := [.val (.int x0), .val (.int x1), .val (.int x2), .val (.int x3), .val (.int (x0 &&& (7 : Int32))), .val (.ref pf), .val (.ref ur), .val (.ref nsp), .val (.int (1 : Int32)), .val (.ref nm), .val (.int (0 : Int32)), .val (.int (x1 &&& (3 : Int32))), .val (.ref vl), .val (.null), .val (.ref h.size), .val (.int (0 : Int32))]) (S' := [.int (1 : Int32)]) rfl ?_
      refine b_goto C P4 (o := 4) (by decide +kernel) (pc' := 517) (by decide) ?_
      exact r_int C P4 (ty := .boolean) (by simp) rfl (by decide +kernel) (le_ _ _ rfl) (le_ _ _ rfl) ⟨_, rfl, rfl⟩
  · skip
    refine s_gets C P (idx := 15) (by decide +kernel) (hw _ (List.mem_of_getElem? (i := 87) rfl)) YX (pc' := 457) rfl (fun T5 P5 => ?_)
    refine b_goto C P5 (o := 4) (by decide +kernel) (pc' := 461) (by decide) ?_
    refine blk C P5 [.astore 13] (by decide +kernel) (pc' := 463) (L' := [.val (.int x0), .val (.int x1), .val (.int x2), .val (.int x3), .val (.int (x0 &&& (7 : Int32))), .val (.ref pf), .val (.ref ur), .val (.ref nsp), .val (.int (1 : Int32)), .val (.ref nm), .val (.int (0 : Int32)), .val (.int (x1 &&& (3 : Int32))), .val (.ref vl), .val (.ref kX), .unset, .unset]) (S' := []) rfl ?_
    refine s_new C P5 (idx := 50) (by decide +kernel) (hw _ (List.mem_of_getElem? (i := 30) rfl)) (hw _ (List.mem_of_getElem? (i := 31) rfl)) (hw _ (List.mem_of_getElem? (i := 32) rfl)) (le_ _ _ rfl) (le_ _ _ rfl) (pc' := 466) rfl (fun T6 h6 P6 E6 B6 => ?_)
    replace P6 := P6.more (k' := 14) (n' := 238) (le_ _ _ rfl) (le_ _ _ rfl)
    refine blk C P6 [.dup, .aload 7, .aload 9, .aload 12, .aload 13] (by decide +kernel) (pc' := 475) (L' := [.val (.int x0), .val (.int x1), .val (.int x2), .val (.int x3), .val (.int (x0 &&& (7 : Int32))), .val (.ref pf), .val (.ref ur), .val (.ref nsp), .val (.int (1 : Int32)), .val (.ref nm), .val (.int (0 : Int32)), .val (.int (x1 &&& (3 : Int32))), .val (.ref vl), .val (.ref kX), .unset, .unset]) (S' := [.ref kX, .ref vl, .ref nm, .ref nsp, .ref h.size, .ref h.size]) rfl ?_
    refine c_special C P6 (idx := 52) (y := (⟨"com/example/archive_packager/archivepackager/dc/DcElement$Attribute", "<init>", "(Lcom/example/archive_packager/archivepackager/xml/Namespace;Ljava/lang/String;Ljava/lang/String;Lcom/example/archive_packager/archivepackager/xml/Namespace;)V"⟩ : MethodName)) (ybytes := prog_13_method_1_code) (ymax := 5) (yrm := ({ frames := 2, cells := 0, slots := 0, locals := 24 } : Room)) rfl (by decide +kernel) (hw _ (List.mem_of_getElem? (i := 33) rfl)) (hw _ (List.mem_of_getElem? (i := 34) rfl)) (hw _ (List.mem_of_getElem? (i := 32) rfl)) (hw _ (List.mem_of_getElem? (i := 35) rfl)) (by decide) [.ref nsp, .ref nm, .ref vl, .ref kX] [.ref h.size] (k_att_rr l wd (h.size) nsp nm vl kX P6.old B6) (le_ _ _ rfl) (W := 1) (le_ _ _ rfl) (by decide +kernel : parseMethodDescriptor "(Lcom/example/archive_packager/archivepackager/xml/Namespace;Ljava/lang/String;Ljava/lang/String;Lcom/example/archive_packager/archivepackager/xml/Namespace;)V" = some ⟨[(.object "com/example/archive_packager/archivepackager/xml/Namespace"), (.object "java/lang/String"), (.object "java/lang/String"), (.object "com/example/archive_packager/archivepackager/xml/Namespace")], none⟩) rfl rfl rfl (le_ _ _ rfl) (le_ _ _ rfl) (le_ _ _ rfl) (pc' := 478) rfl (fun T7 h7 P7 Q7 => ?_)
    replace P7 := P7.more (k' := 14) (n' := 238) (le_ _ _ rfl) (le_ _ _ rfl)
    obtain ⟨K7, A7, F7_0, F7_1⟩ := Q7
    refine blk C P7 [.astore 14, .iload 4] (by decide +kernel) (pc' := 482) (L' := [.val (.int x0), .val (.int x1), .val (.int x2), .val (.int x3), .val (.int (x0 &&& (7 : Int32))), .val (.ref pf), .val (.ref ur), .val (.ref nsp), .val (.int (1 : Int32)), .val (.ref nm), .val (.int (0 : Int32)), .val (.int (x1 &&& (3 : Int32))), .val (.ref vl), .val (.ref kX), .val (.ref h.size), .unset]) (S' := [.int (x0 &&& (7 : Int32))]) rfl ?_
    refine b_ifN C P7 (cd := .eq) (o := 17) (by decide +kernel) (pc' := 485) rfl hu0 ?_
    refine blk C P7 [.iload 8] (by decide +kernel) (pc' := 487) (L' := [.val (.int x0), .val (.int x1), .val (.int x2), .val (.int x3), .val (.int (x0 &&& (7 : Int32))), .val (.ref pf), .val (.ref ur), .val (.ref nsp), .val (.int (1 : Int32)), .val (.ref nm), .val (.int (0 : Int32)), .val (.int (x1 &&& (3 : Int32))), .val (.ref vl), .val (.ref kX), .val (.ref h.size), .unset]) (S' := [.int (1 : Int32)]) rfl ?_
    refine b_ifN C P7 (cd := .eq) (o := 12) (by decide +kernel) (pc' := 490) rfl (by decide : ¬ (1 : Int32) = 0) ?_
    refine blk C P7 [.iload 10] (by decide +kernel) (pc' := 492) (L' := [.val (.int x0), .val (.int x1), .val (.int x2), .val (.int x3), .val (.int (x0 &&& (7 : Int32))), .val (.ref pf), .val (.ref ur), .val (.ref nsp), .val (.int (1 : Int32)), .val (.ref nm), .val (.int (0 : Int32)), .val (.int (x1 &&& (3 : Int32))), .val (.ref vl), .val (.ref kX), .val (.ref h.size), .unset]) (S' := [.int (0 : Int32)]) rfl ?_
    refine b_ifY C P7 (cd := .eq) (o := 7) (by decide +kernel) (pc' := 499) (by decide) (by decide : (0 : Int32) = 0) ?_
    refine blk C P7 [.iconst 0, .istore 15, .aload 14] (by decide +kernel) (pc' := 504) (L' := [.val (.int x0), .val (.int x1), .val (.int x2), .val (.int x3), .val (.int (x0 &&& (7 : Int32))), .val (.ref pf), .val (.ref ur), .val (.ref nsp), .val (.int (1 : Int32)), .val (.ref nm), .val (.int (0 : Int32)), .val (.int (x1 &&& (3 : Int32))), .val (.ref vl), .val (.ref kX), .val (.ref h.size), .val (.int (0 : Int32))]) (S' := [.ref h.size]) rfl ?_
    refine c_virtual C P7 (idx := 55) (y := (⟨"com/example/archive_packager/archivepackager/dc/DcElement$Attribute", "isType", "()Z"⟩ : MethodName)) (K0 := "com/example/archive_packager/archivepackager/dc/DcElement$Attribute") (ybytes := prog_13_method_2_code) (ymax := 1) (yret := (some .boolean)) (yrm := ({ frames := 2, cells := 2, slots := 20, locals := 28 } : Room)) (by decide +kernel) (hw _ (List.mem_of_getElem? (i := 50) rfl)) (hw _ (List.mem_of_getElem? (i := 51) rfl)) (hw _ (List.mem_of_getElem? (i := 53) rfl)) (hw _ (List.mem_of_getElem? (i := 52) rfl)) (hw _ (List.mem_of_getElem? (i := 32) rfl)) (hw _ (List.mem_of_getElem? (i := 54) rfl)) (by decide) A7 [] [] (k_is_r l wd (h.size) nsp ur nm P7.old F7_0 F7_1 (A.ext (exK E6 K7 (Nat.le_refl _))) (G.ext (exK E6 K7 (Nat.le_refl _))) (S.ext (exK E6 K7 (Nat.le_refl _))) (Sn.ext (exK E6 K7 (Nat.le_refl _)))) (le_ _ _ rfl) (W := 0) (le_ _ _ rfl) (by decide +kernel : parseMethodDescriptor "()Z" = some ⟨[], some .boolean⟩) rfl rfl rfl (le_ _ _ rfl) (le_ _ _ rfl) (le_ _ _ rfl) (pc' := 507) rfl (fun T8 h8 v8 P8 Q8 => ?_)
    replace P8 := P8.more (k' := 16) (n' := 258) (le_ _ _ rfl) (le_ _ _ rfl)
    obtain ⟨Q8, E8⟩ := Q8
    rcases Q8 with ⟨rfl, Q8⟩ | ⟨rfl, Q8⟩
    · skip
      exact absurd Q8 (fun z => hn z.2)
    · skip
      refine blk C P8 [.iload 15] (by decide +kernel) (pc' := 509) (L' := [.val (.int x0), .val (.int x1), .val (.int x2), .val (.int x3), .val (.int (x0 &&& (7 : Int32))), .val (.ref pf), .val (.ref ur), .val (.ref nsp), .val (.int (1 : Int32)), .val (.ref nm), .val (.int (0 : Int32)), .val (.int (x1 &&& (3 : Int32))), .val (.ref vl), .val (.ref kX), .val (.ref h.size), .val (.int (0 : Int32))]) (S' := [.int (0 : Int32), .int (0 : Int32)]) rfl ?_
      refine b_cmN C P8 (cd := .ne) (o := 7) (by decide +kernel) (pc' := 512) rfl (by decide : (0 : Int32) = (0 : Int32)) ?_
      refine blk C P8 [.iconst 1] (by decide +kernel) (pc' := 513) (L' := [.val (.int x0), .val (.int x1), .val (.int x2), .val (.int x3), .val (.int (x0 &&& (7 : Int32))), .val (.ref pf), .val (.ref ur), .val (.ref nsp), .val (.int (1 : Int32)), .val (.ref nm), .val (.int (0 : Int32)), .val (.int (x1 &&& (3 : Int32))), .val (.ref vl), .val (.ref kX), .val (.ref h.size), .val (.int (0 : Int32))]) (S' := [.int (1 : Int32)]) rfl ?_
      refine b_goto C P8 (o := 4) (by decide +kernel) (pc' := 517) (by decide) ?_
      exact r_int C P8 (ty := .boolean) (by simp) rfl (by decide +kernel) (le_ _ _ rfl) (le_ _ _ rfl) ⟨_, rfl, rfl⟩
set_option maxRecDepth 65536 in
set_option maxHeartbeats 4000000 in
theorem t419_t0u (l : Launch) {Z : State} {a0 : Array Value} {n0 : Nat} {h : Heap} {z : Int32} {kX uX kD uD : Addr} {dl : List Int32} (wd : Wd Z a0 z kX uX kD uD dl) (x0 x1 x2 x3 : Int32) (pf ur nsp : Addr) (nm : Addr)  {nms : List Int32} {p : Program} {e : Env} {s : State} {m : MethodId} {args : Array Value} {below : List Frame} {meth : Method} {c : Code} {T : State} (C : Ctx Z a0 consts_1 p s m meth c "com/example/archive_packager/archivepackager/dc/AttributeIsTypePinLaw" "law" code 16 (some .boolean)) (P : Pos Z consts_1 n0 p l e room_1 s m args below meth c T h 11 214) (hu0 : ¬ (x0 &&& (7 : Int32)) = 0) (A : Exa Z h nsp "com/example/archive_packager/archivepackager/xml/Namespace") (G : Fld Z h nsp "com/example/archive_packager/archivepackager/xml/Namespace" "uri" "Ljava/lang/String;" (.ref ur)) (S : Str Z h ur (txt 84)) (Sn : Str Z h nm nms) (hn : ¬ nms = (txt 88)) :
    Jvm.Own.Run p.tables e below (Jvm.Own.Ends Z consts_1 n0 room_1 below (Ret1 fun v h' => v = .int 1) s) T (fr m 419 [.val (.int x0), .val (.int x1), .val (.int x2), .val (.int x3), .val (.int (x0 &&& (7 : Int32))), .val (.ref pf), .val (.ref ur), .val (.ref nsp), .val (.int (1 : Int32)), .val (.ref nm), .val (.int (0 : Int32)), .val (.int (x1 &&& (3 : Int32))), .unset, .unset, .unset, .unset] []) := by
  obtain ⟨hw, hEL, Sz, hz, YX, XX, GX, SX, YD, XD, GD, SDt, hdl⟩ := id wd
  have wS : ∀ a ∈ Bundle.stringAtoms, a.before a0 Z = true := fun d hd => hw d ((by decide +kernel : ∀ d ∈ Bundle.stringAtoms, d ∈ tables_1) d hd)
  refine blk C P [.iload_n 0, .iconst 5, .ishr, .iconst 1, .iand] (by decide +kernel) (pc' := 424) (L' := [.val (.int x0), .val (.int x1), .val (.int x2), .val (.int x3), .val (.int (x0 &&& (7 : Int32))), .val (.ref pf), .val (.ref ur), .val (.ref nsp), .val (.int (1 : Int32)), .val (.ref nm), .val (.int (0 : Int32)), .val (.int (x1 &&& (3 : Int32))), .unset, .unset, .unset, .unset]) (S' := [.int ((x0 >>> ((5 : Int32) &&& 31)) &&& (1 : Int32))]) rfl ?_
  refine b_if C P (cd := .eq) (o := 8) (by decide +kernel) (pc' := 432) (by decide) (pn := 427) rfl (fun (q1 : ((x0 >>> ((5 : Int32) &&& 31)) &&& (1 : Int32)) = 0) => ?_) (fun (q1 : ¬ ((x0 >>> ((5 : Int32) &&& 31)) &&& (1 : Int32)) = 0) => ?_)
  · skip
    refine blk C P [.iload_n 3, .bipush 24, .ishr, .sipush 255, .iand, .i2c] (by decide +kernel) (pc' := 441) (L' := [.val (.int x0), .val (.int x1), .val (.int x2), .val (.int x3), .val (.int (x0 &&& (7 : Int32))), .val (.ref pf), .val (.ref ur), .val (.ref nsp), .val (.int (1 : Int32)), .val (.ref nm), .val (.int (0 : Int32)), .val (.int (x1 &&& (3 : Int32))), .unset, .unset, .unset, .unset]) (S' := [.int (c16 ((x3 >>> ((24 : Int32) &&& 31)) &&& (255 : Int32)))]) rfl ?_
    refine c_static C P (idx := 9) (y := (⟨"java/lang/String", "valueOf", "(C)Ljava/lang/String;"⟩ : MethodName)) (ybytes := jdk_42_method_139_code) (ymax := 1) (yret := (some (.object "java/lang/String"))) (yrm := ({ frames := 2, cells := 2, slots := 5, locals := 28 } : Room)) (by decide +kernel) (hw _ (List.mem_of_getElem? (i := 0) rfl)) (hw _ (List.mem_of_getElem? (i := 1) rfl)) (hw _ (List.mem_of_getElem? (i := 2) rfl)) (hw _ (List.mem_of_getElem? (i := 3) rfl)) (by decide) [.int (c16 ((x3 >>> ((24 : Int32) &&& 31)) &&& (255 : Int32)))] [] (k_valueOf l hw hEL Sz hz (c16 ((x3 >>> ((24 : Int32) &&& 31)) &&& (255 : Int32))) P.old latv) (le_ _ _ rfl) (W := 0) (le_ _ _ rfl) (by decide +kernel : parseMethodDescriptor "(C)Ljava/lang/String;" = some ⟨[.char], some (.object "java/lang/String")⟩) rfl rfl rfl (le_ _ _ rfl) (le_ _ _ rfl) (le_ _ _ rfl) (pc' := 444) rfl (fun T2 h2 v2 P2 Q2 => ?_)
    replace P2 := P2.more (k' := 13) (n' := 219) (le_ _ _ rfl) (le_ _ _ rfl)
    obtain ⟨b2, rfl, E2, S2⟩ := Q2
    refine blk C P2 [.astore 12] (by decide +kernel) (pc' := 446) (L' := [.val (.int x0), .val (.int x1), .val (.int x2), .val (.int x3), .val (.int (x0 &&& (7 : Int32))), .val (.ref pf), .val (.ref ur), .val (.ref nsp), .val (.int (1 : Int32)), .val (.ref nm), .val (.int (0 : Int32)), .val (.int (x1 &&& (3 : Int32))), .val (.ref b2), .unset, .unset, .unset]) (S' := []) rfl ?_
    exact t446_t0u l wd x0 x1 x2 x3 pf ur nsp nm b2 C (P2.more (k' := 13) (n' := 234) (le_ _ _ rfl) (le_ _ _ rfl)) hu0 (A.ext E2) (G.ext E2) (S.ext E2) (Sn.ext E2) hn
  · skip
    refine s_ldc C P (idx := 42) (txt 86) (by decide +kernel) (hw _ (List.mem_of_getElem? (i := 86) rfl)) wS (by decide +kernel) (by decide +kernel) (by decide +kernel) (by decide +kernel) (len := 16) (by decide) (by decide) (le_ _ _ rfl) (le_ _ _ rfl) (pc' := 429) rfl (fun T3 h3 a3 P3 E3 S3 => ?_)
    replace P3 := P3.more (k' := 13) (n' := 234) (le_ _ _ rfl) (le_ _ _ rfl)
    refine b_goto C P3 (o := 15) (by decide +kernel) (pc' := 444) (by decide) ?_
    refine blk C P3 [.astore 12] (by decide +kernel) (pc' := 446) (L' := [.val (.int x0), .val (.int x1), .val (.int x2), .val (.int x3), .val (.int (x0 &&& (7 : Int32))), .val (.ref pf), .val (.ref ur), .val (.ref nsp), .val (.int (1 : Int32)), .val (.ref nm), .val (.int (0 : Int32)), .val (.int (x1 &&& (3 : Int32))), .val (.ref a3), .unset, .unset, .unset]) (S' := []) rfl ?_
    exact t446_t0u l wd x0 x1 x2 x3 pf ur nsp nm a3 C (P3.more (k' := 13) (n' := 234) (le_ _ _ rfl) (le_ _ _ rfl)) hu0 (A.ext E3) (G.ext E3) (S.ext E3) (Sn.ext E3) hn
set_option maxRecDepth 65536 in
set_option maxHeartbeats 4000000 in
theorem t446_t0c (l : Launch) {Z : State} {a0 : Array Value} {n0 : Nat} {h : Heap} {z : Int32} {kX uX kD uD : Addr} {dl : List Int32} (wd : Wd Z a0 z kX uX kD uD dl) (x0 x1 x2 x3 : Int32) (pf ur nsp : Addr) (nm vl : Addr) (c0 c1 c2 c3 : Int32)  {nms : List Int32} {p : Program} {e : Env} {s : State} {m : MethodId} {args : Array Value} {below : List Frame} {meth : Method} {c : Code} {T : State} (C : Ctx Z a0 consts_1 p s m meth c "com/example/archive_packager/archivepackager/dc/AttributeIsTypePinLaw" "law" code 16 (some .boolean)) (P : Pos Z consts_1 n0 p l e room_1 s m args below meth c T h 13 234) (hu0 : ¬ (x0 &&& (7 : Int32)) = 0) (A : Exa Z h nsp "com/example/archive_packager/archivepackager/xml/Namespace") (G : Fld Z h nsp "com/example/archive_packager/archivepackager/xml/Namespace" "uri" "Ljava/lang/String;" (.ref ur)) (S : Str Z h ur (txt 84)) (Sn : Str Z h nm nms) (hn : ¬ nms = (txt 88)) :
    Jvm.Own.Run p.tables e below (Jvm.Own.Ends Z consts_1 n0 room_1 below (Ret1 fun v h' => v = .int 1) s) T (fr m 446 [.val (.int x0), .val (.int x1), .val (.int x2), .val (.int x3), .val (.int (x0 &&& (7 : Int32))), .val (.ref pf), .val (.ref ur), .val (.ref nsp), .val (.int (1 : Int32)), .val (.ref nm), .val (.int (0 : Int32)), .val (.int (x1 &&& (3 : Int32))), .val (.ref vl), .val (.int c1), .val (.int c2), .val (.int c3)] []) := by
  obtain ⟨hw, hEL, Sz, hz, YX, XX, GX, SX, YD, XD, GD, SDt, hdl⟩ := id wd
  refine blk C P [.iload_n 0, .iconst 4, .ishr, .iconst 1, .iand] (by decide +kernel) (pc' := 451) (L' := [.val (.int x0), .val (.int x1), .val (.int x2), .val (.int x3), .val (.int (x0 &&& (7 : Int32))), .val (.ref pf), .val (.ref ur), .val (.ref nsp), .val (.int (1 : Int32)), .val (.ref nm), .val (.int (0 : Int32)), .val (.int (x1 &&& (3 : Int32))), .val (.ref vl), .val (.int c1), .val (.int c2), .val (.int c3)]) (S' := [.int ((x0 >>> ((4 : Int32) &&& 31)) &&& (1 : Int32))]) rfl ?_
  refine b_if C P (cd := .eq) (o := 9) (by decide +kernel) (pc' := 460) (by decide) (pn := 454) rfl (fun (q1 : ((x0 >>> ((4 : Int32) &&& 31)) &&& (1 : Int32)) = 0) => ?_) (fun (q1 : ¬ ((x0 >>> ((4 : Int32) &&& 31)) &&& (1 : Int32)) = 0) => ?_)
  · skip
    refine blk C P [.aconst_null, .astore 13] (by decide +kernel) (pc' := 463) (L' := [.val (.int x0), .val (.int x1), .val (.int x2), .val (.int x3), .val (.int (x0 &&& (7 : Int32))), .val (.ref pf), .val (.ref ur), .val (.ref nsp), .val (.int (1 : Int32)), .val (.ref nm), .val (.int (0 : Int32)), .val (.int (x1 &&& (3 : Int32))), .val (.ref vl), .val (.null), .val (.int c2), .val (.int c3)]) (S' := []) rfl ?_
    refine s_new C P (idx := 50) (by decide +kernel) (hw _ (List.mem_of_getElem? (i := 30) rfl)) (hw _ (List.mem_of_getElem? (i := 31) rfl)) (hw _ (List.mem_of_getElem? (i := 32) rfl)) (le_ _ _ rfl) (le_ _ _ rfl) (pc' := 466) rfl (fun T2 h2 P2 E2 B2 => ?_)
    replace P2 := P2.more (k' := 14) (n' := 238) (le_ _ _ rfl) (le_ _ _ rfl)
    refine blk C P2 [.dup, .aload 7, .aload 9, .aload 12, .aload 13] (by decide +kernel) (pc' := 475) (L' := [.val (.int x0), .val (.int x1), .val (.int x2), .val (.int x3), .val (.int (x0 &&& (7 : Int32))), .val (.ref pf), .val (.ref ur), .val (.ref nsp), .val (.int (1 : Int32)), .val (.ref nm), .val (.int (0 : Int32)), .val (.int (x1 &&& (3 : Int32))), .val (.ref vl), .val (.null), .val (.int c2), .val (.int c3)]) (S' := [.null, .ref vl, .ref nm, .ref nsp, .ref h.size, .ref h.size]) rfl ?_
    refine c_special C P2 (idx := 52) (y := (⟨"com/example/archive_packager/archivepackager/dc/DcElement$Attribute", "<init>", "(Lcom/example/archive_packager/archivepackager/xml/Namespace;Ljava/lang/String;Ljava/lang/String;Lcom/example/archive_packager/archivepackager/xml/Namespace;)V"⟩ : MethodName)) (ybytes := prog_13_method_1_code) (ymax := 5) (yrm := ({ frames := 2, cells := 0, slots := 0, locals := 24 } : Room)) rfl (by decide +kernel) (hw _ (List.mem_of_getElem? (i := 33) rfl)) (hw _ (List.mem_of_getElem? (i := 34) rfl)) (hw _ (List.mem_of_getElem? (i := 32) rfl)) (hw _ (List.mem_of_getElem? (i := 35) rfl)) (by decide) [.ref nsp, .ref nm, .ref vl, .null] [.ref h.size] (k_att_rn l wd (h.size) nsp nm vl P2.old B2) (le_ _ _ rfl) (W := 1) (le_ _ _ rfl) (by decide +kernel : parseMethodDescriptor "(Lcom/example/archive_packager/archivepackager/xml/Namespace;Ljava/lang/String;Ljava/lang/String;Lcom/example/archive_packager/archivepackager/xml/Namespace;)V" = some ⟨[(.object "com/example/archive_packager/archivepackager/xml/Namespace"), (.object "java/lang/String"), (.object "java/lang/String"), (.object "com/example/archive_packager/archivepackager/xml/Namespace")], none⟩) rfl rfl rfl (le_ _ _ rfl) (le_ _ _ rfl) (le_ _ _ rfl) (pc' := 478) rfl (fun T3 h3 P3 Q3 => ?_)
    replace P3 := P3.more (k' := 14) (n' := 238) (le_ _ _ rfl) (le_ _ _ rfl)
    obtain ⟨K3, A3, F3_0, F3_1⟩ := Q3
    refine blk C P3 [.astore 14, .iload 4] (by decide +kernel) (pc' := 482) (L' := [.val (.int x0), .val (.int x1), .val (.int x2), .val (.int x3), .val (.int (x0 &&& (7 : Int32))), .val (.ref pf), .val (.ref ur), .val (.ref nsp), .val (.int (1 : Int32)), .val (.ref nm), .val (.int (0 : Int32)), .val (.int (x1 &&& (3 : Int32))), .val (.ref vl), .val (.null), .val (.ref h.size), .val (.int c3)]) (S' := [.int (x0 &&& (7 : Int32))]) rfl ?_
    refine b_ifN C P3 (cd := .eq) (o := 17) (by decide +kernel) (pc' := 485) rfl hu0 ?_
    refine blk C P3 [.iload 8] (by decide +kernel) (pc' := 487) (L' := [.val (.int x0), .val (.int x1), .val (.int x2), .val (.int x3), .val (.int (x0 &&& (7 : Int32))), .val (.ref pf), .val (.ref ur), .val (.ref nsp), .val (.int (1 : Int32)), .val (.ref nm), .val (.int (0 : Int32)), .val (.int (x1 &&& (3 : Int32))), .val (.ref vl), .val (.null), .val (.ref h.size), .val (.int c3)]) (S' := [.int (1 : Int32)]) rfl ?_
    refine b_ifN C P3 (cd := .eq) (o := 12) (by decide +kernel) (pc' := 490) rfl (by decide : ¬ (1 : Int32) = 0) ?_
    refine blk C P3 [.iload 10] (by decide +kernel) (pc' := 492) (L' := [.val (.int x0), .val (.int x1), .val (.int x2), .val (.int x3), .val (.int (x0 &&& (7 : Int32))), .val (.ref pf), .val (.ref ur), .val (.ref nsp), .val (.int (1 : Int32)), .val (.ref nm), .val (.int (0 : Int32)), .val (.int (x1 &&& (3 : Int32))), .val (.ref vl), .val (.null), .val (.ref h.size), .val (.int c3)]) (S' := [.int (0 : Int32)]) rfl ?_
    refine b_ifY C P3 (cd := .eq) (o := 7) (by decide +kernel) (pc' := 499) (by decide) (by decide : (0 : Int32) = 0) ?_
    refine blk C P3 [.iconst 0, .istore 15, .aload 14] (by decide +kernel) (pc' := 504) (L' := [.val (.int x0), .val (.int x1), .val (.int x2), .val (.int x3), .val (.int (x0 &&& (7 : Int32))), .val (.ref pf), .val (.ref ur), .val (.ref nsp), .val (.int (1 : Int32)), .val (.ref nm), .val (.int (0 : Int32)), .val (.int (x1 &&& (3 : Int32))), .val (.ref vl), .val (.null), .val (.ref h.size), .val (.int (0 : Int32))]) (S' := [.ref h.size]) rfl ?_
    refine c_virtual C P3 (idx := 55) (y := (⟨"com/example/archive_packager/archivepackager/dc/DcElement$Attribute", "isType", "()Z"⟩ : MethodName)) (K0 := "com/example/archive_packager/archivepackager/dc/DcElement$Attribute") (ybytes := prog_13_method_2_code) (ymax := 1) (yret := (some .boolean)) (yrm := ({ frames := 2, cells := 2, slots := 20, locals := 28 } : Room)) (by decide +kernel) (hw _ (List.mem_of_getElem? (i := 50) rfl)) (hw _ (List.mem_of_getElem? (i := 51) rfl)) (hw _ (List.mem_of_getElem? (i := 53) rfl)) (hw _ (List.mem_of_getElem? (i := 52) rfl)) (hw _ (List.mem_of_getElem? (i := 32) rfl)) (hw _ (List.mem_of_getElem? (i := 54) rfl)) (by decide) A3 [] [] (k_is_r l wd (h.size) nsp ur nm P3.old F3_0 F3_1 (A.ext (exK E2 K3 (Nat.le_refl _))) (G.ext (exK E2 K3 (Nat.le_refl _))) (S.ext (exK E2 K3 (Nat.le_refl _))) (Sn.ext (exK E2 K3 (Nat.le_refl _)))) (le_ _ _ rfl) (W := 0) (le_ _ _ rfl) (by decide +kernel : parseMethodDescriptor "()Z" = some ⟨[], some .boolean⟩) rfl rfl rfl (le_ _ _ rfl) (le_ _ _ rfl) (le_ _ _ rfl) (pc' := 507) rfl (fun T4 h4 v4 P4 Q4 => ?_)
    replace P4 := P4.more (k' := 16) (n' := 258) (le_ _ _ rfl) (le_ _ _ rfl)
    obtain ⟨Q4, E4⟩ := Q4
    rcases Q4 with ⟨rfl, Q4⟩ | ⟨rfl, Q4⟩
    · skip
      exact absurd Q4 (fun z => hn z.2)
    · skip
      refine blk C P4 [.iload 15] (by decide +kernel) (pc' := 509) (L' := [.val (.int x0), .val (.int x1), .val (.int x2), .val (.int x3), .val (.int (x0 &&& (7 : Int32))), .val (.ref pf), .val (.ref ur), .val (.ref nsp), .val (.int (1 : Int32)), .val (.ref nm), .val (.int (0 : Int32)), .val (.int (x1 &&& (3 : Int32))), .val (.ref vl), .val (.null), .val (.ref h.size), .val (.int (0 : Int32))]) (S' := [.int (0 : Int32), .int (0 : Int32)]) rfl ?_
      refine b_cmN C P4 (cd := .ne) (o := 7) (by decide +kernel) (pc' := 512) rfl (by decide : (0 : Int32) = (0 : Int32)) ?_
      refine blk C P4 [.iconst 1] (by decide +kernel) (pc' := 513) (L' := [.val (.int x0), .val (.int x1), .val (.int x2), .val (.int x3), .val (.int (x0 &&& (7 : Int32))), .val (.ref pf), .val (.ref ur), .val (.ref nsp), .val (.int (1 : Int32)), .val (.ref nm), .val (.int (0 : Int32)), .val (.int (x1 &&& (3 : Int32))), .val (.ref vl), .val (.null), .val (.ref h.size), .val (.int (0 : Int32))]) (S' := [.int (1 : Int32)]) rfl ?_
      refine b_goto C P4 (o := 4) (by decide +kernel) (pc' := 517) (by decide) ?_
      exact r_int C P4 (ty := .boolean) (by simp) rfl (by decide +kernel) (le_ _ _ rfl) (le_ _ _ rfl) ⟨_, rfl, rfl⟩
  · skip
    refine s_gets C P (idx := 15) (by decide +kernel) (hw _ (List.mem_of_getElem? (i := 87) rfl)) YX (pc' := 457) rfl (fun T5 P5 => ?_)
    refine b_goto C P5 (o := 4) (by decide +kernel) (pc' := 461) (by decide) ?_
    refine blk C P5 [.astore 13] (by decide +kernel) (pc' := 463) (L' := [.val (.int x0), .val (.int x1), .val (.int x2), .val (.int x3), .val (.int (x0 &&& (7 : Int32))), .val (.ref pf), .val (.ref ur), .val (.ref nsp), .val (.int (1 : Int32)), .val (.ref nm), .val (.int (0 : Int32)), .val (.int (x1 &&& (3 : Int32))), .val (.ref vl), .val (.ref kX), .val (.int c2), .val (.int c3)]) (S' := []) rfl ?_
    refine s_new C P5 (idx := 50) (by decide +kernel) (hw _ (List.mem_of_getElem? (i := 30) rfl)) (hw _ (List.mem_of_getElem? (i := 31) rfl)) (hw _ (List.mem_of_getElem? (i := 32) rfl)) (le_ _ _ rfl) (le_ _ _ rfl) (pc' := 466) rfl (fun T6 h6 P6 E6 B6 => ?_)
    replace P6 := P6.more (k' := 14) (n' := 238) (le_ _ _ rfl) (le_ _ _ rfl)
    refine blk C P6 [.dup, .aload 7, .aload 9, .aload 12, .aload 13] (by decide +kernel) (pc' := 475) (L' := [.val (.int x0), .val (.int x1), .val (.int x2), .val (.int x3), .val (.int (x0 &&& (7 : Int32))), .val (.ref pf), .val (.ref ur), .val (.ref nsp), .val (.int (1 : Int32)), .val (.ref nm), .val (.int (0 : Int32)), .val (.int (x1 &&& (3 : Int32))), .val (.ref vl), .val (.ref kX), .val (.int c2), .val (.int c3)]) (S' := [.ref kX, .ref vl, .ref nm, .ref nsp, .ref h.size, .ref h.size]) rfl ?_
    refine c_special C P6 (idx := 52) (y := (⟨"com/example/archive_packager/archivepackager/dc/DcElement$Attribute", "<init>", "(Lcom/example/archive_packager/archivepackager/xml/Namespace;Ljava/lang/String;Ljava/lang/String;Lcom/example/archive_packager/archivepackager/xml/Namespace;)V"⟩ : MethodName)) (ybytes := prog_13_method_1_code) (ymax := 5) (yrm := ({ frames := 2, cells := 0, slots := 0, locals := 24 } : Room)) rfl (by decide +kernel) (hw _ (List.mem_of_getElem? (i := 33) rfl)) (hw _ (List.mem_of_getElem? (i := 34) rfl)) (hw _ (List.mem_of_getElem? (i := 32) rfl)) (hw _ (List.mem_of_getElem? (i := 35) rfl)) (by decide) [.ref nsp, .ref nm, .ref vl, .ref kX] [.ref h.size] (k_att_rr l wd (h.size) nsp nm vl kX P6.old B6) (le_ _ _ rfl) (W := 1) (le_ _ _ rfl) (by decide +kernel : parseMethodDescriptor "(Lcom/example/archive_packager/archivepackager/xml/Namespace;Ljava/lang/String;Ljava/lang/String;Lcom/example/archive_packager/archivepackager/xml/Namespace;)V" = some ⟨[(.object "com/example/archive_packager/archivepackager/xml/Namespace"), (.object "java/lang/String"), (.object "java/lang/String"), (.object "com/example/archive_packager/archivepackager/xml/Namespace")], none⟩) rfl rfl rfl (le_ _ _ rfl) (le_ _ _ rfl) (le_ _ _ rfl) (pc' := 478) rfl (fun T7 h7 P7 Q7 => ?_)
    replace P7 := P7.more (k' := 14) (n' := 238) (le_ _ _ rfl) (le_ _ _ rfl)
    obtain ⟨K7, A7, F7_0, F7_1⟩ := Q7
    refine blk C P7 [.astore 14, .iload 4] (by decide +kernel) (pc' := 482) (L' := [.val (.int x0), .val (.int x1), .val (.int x2), .val (.int x3), .val (.int (x0 &&& (7 : Int32))), .val (.ref pf), .val (.ref ur), .val (.ref nsp), .val (.int (1 : Int32)), .val (.ref nm), .val (.int (0 : Int32)), .val (.int (x1 &&& (3 : Int32))), .val (.ref vl), .val (.ref kX), .val (.ref h.size), .val (.int c3)]) (S' := [.int (x0 &&& (7 : Int32))]) rfl ?_
    refine b_ifN C P7 (cd := .eq) (o := 17) (by decide +kernel) (pc' := 485) rfl hu0 ?_
    refine blk C P7 [.iload 8] (by decide +kernel) (pc' := 487) (L' := [.val (.int x0), .val (.int x1), .val (.int x2), .val (.int x3), .val (.int (x0 &&& (7 : Int32))), .val (.ref pf), .val (.ref ur), .val (.ref nsp), .val (.int (1 : Int32)), .val (.ref nm), .val (.int (0 : Int32)), .val (.int (x1 &&& (3 : Int32))), .val (.ref vl), .val (.ref kX), .val (.ref h.size), .val (.int c3)]) (S' := [.int (1 : Int32)]) rfl ?_
    refine b_ifN C P7 (cd := .eq) (o := 12) (by decide +kernel) (pc' := 490) rfl (by decide : ¬ (1 : Int32) = 0) ?_
    refine blk C P7 [.iload 10] (by decide +kernel) (pc' := 492) (L' := [.val (.int x0), .val (.int x1), .val (.int x2), .val (.int x3), .val (.int (x0 &&& (7 : Int32))), .val (.ref pf), .val (.ref ur), .val (.ref nsp), .val (.int (1 : Int32)), .val (.ref nm), .val (.int (0 : Int32)), .val (.int (x1 &&& (3 : Int32))), .val (.ref vl), .val (.ref kX), .val (.ref h.size), .val (.int c3)]) (S' := [.int (0 : Int32)]) rfl ?_
    refine b_ifY C P7 (cd := .eq) (o := 7) (by decide +kernel) (pc' := 499) (by decide) (by decide : (0 : Int32) = 0) ?_
    refine blk C P7 [.iconst 0, .istore 15, .aload 14] (by decide +kernel) (pc' := 504) (L' := [.val (.int x0), .val (.int x1), .val (.int x2), .val (.int x3), .val (.int (x0 &&& (7 : Int32))), .val (.ref pf), .val (.ref ur), .val (.ref nsp), .val (.int (1 : Int32)), .val (.ref nm), .val (.int (0 : Int32)), .val (.int (x1 &&& (3 : Int32))), .val (.ref vl), .val (.ref kX), .val (.ref h.size), .val (.int (0 : Int32))]) (S' := [.ref h.size]) rfl ?_
    refine c_virtual C P7 (idx := 55) (y := (⟨"com/example/archive_packager/archivepackager/dc/DcElement$Attribute", "isType", "()Z"⟩ : MethodName)) (K0 := "com/example/archive_packager/archivepackager/dc/DcElement$Attribute") (ybytes := prog_13_method_2_code) (ymax := 1) (yret := (some .boolean)) (yrm := ({ frames := 2, cells := 2, slots := 20, locals := 28 } : Room)) (by decide +kernel) (hw _ (List.mem_of_getElem? (i := 50) rfl)) (hw _ (List.mem_of_getElem? (i := 51) rfl)) (hw _ (List.mem_of_getElem? (i := 53) rfl)) (hw _ (List.mem_of_getElem? (i := 52) rfl)) (hw _ (List.mem_of_getElem? (i := 32) rfl)) (hw _ (List.mem_of_getElem? (i := 54) rfl)) (by decide) A7 [] [] (k_is_r l wd (h.size) nsp ur nm P7.old F7_0 F7_1 (A.ext (exK E6 K7 (Nat.le_refl _))) (G.ext (exK E6 K7 (Nat.le_refl _))) (S.ext (exK E6 K7 (Nat.le_refl _))) (Sn.ext (exK E6 K7 (Nat.le_refl _)))) (le_ _ _ rfl) (W := 0) (le_ _ _ rfl) (by decide +kernel : parseMethodDescriptor "()Z" = some ⟨[], some .boolean⟩) rfl rfl rfl (le_ _ _ rfl) (le_ _ _ rfl) (le_ _ _ rfl) (pc' := 507) rfl (fun T8 h8 v8 P8 Q8 => ?_)
    replace P8 := P8.more (k' := 16) (n' := 258) (le_ _ _ rfl) (le_ _ _ rfl)
    obtain ⟨Q8, E8⟩ := Q8
    rcases Q8 with ⟨rfl, Q8⟩ | ⟨rfl, Q8⟩
    · skip
      exact absurd Q8 (fun z => hn z.2)
    · skip
      refine blk C P8 [.iload 15] (by decide +kernel) (pc' := 509) (L' := [.val (.int x0), .val (.int x1), .val (.int x2), .val (.int x3), .val (.int (x0 &&& (7 : Int32))), .val (.ref pf), .val (.ref ur), .val (.ref nsp), .val (.int (1 : Int32)), .val (.ref nm), .val (.int (0 : Int32)), .val (.int (x1 &&& (3 : Int32))), .val (.ref vl), .val (.ref kX), .val (.ref h.size), .val (.int (0 : Int32))]) (S' := [.int (0 : Int32), .int (0 : Int32)]) rfl ?_
      refine b_cmN C P8 (cd := .ne) (o := 7) (by decide +kernel) (pc' := 512) rfl (by decide : (0 : Int32) = (0 : Int32)) ?_
      refine blk C P8 [.iconst 1] (by decide +kernel) (pc' := 513) (L' := [.val (.int x0), .val (.int x1), .val (.int x2), .val (.int x3), .val (.int (x0 &&& (7 : Int32))), .val (.ref pf), .val (.ref ur), .val (.ref nsp), .val (.int (1 : Int32)), .val (.ref nm), .val (.int (0 : Int32)), .val (.int (x1 &&& (3 : Int32))), .val (.ref vl), .val (.ref kX), .val (.ref h.size), .val (.int (0 : Int32))]) (S' := [.int (1 : Int32)]) rfl ?_
      refine b_goto C P8 (o := 4) (by decide +kernel) (pc' := 517) (by decide) ?_
      exact r_int C P8 (ty := .boolean) (by simp) rfl (by decide +kernel) (le_ _ _ rfl) (le_ _ _ rfl) ⟨_, rfl, rfl⟩
set_option maxRecDepth 65536 in
set_option maxHeartbeats 4000000 in
theorem t419_t0c (l : Launch) {Z : State} {a0 : Array Value} {n0 : Nat} {h : Heap} {z : Int32} {kX uX kD uD : Addr} {dl : List Int32} (wd : Wd Z a0 z kX uX kD uD dl) (x0 x1 x2 x3 : Int32) (pf ur nsp : Addr) (nm : Addr) (c0 c1 c2 c3 : Int32)  {nms : List Int32} {p : Program} {e : Env} {s : State} {m : MethodId} {args : Array Value} {below : List Frame} {meth : Method} {c : Code} {T : State} (C : Ctx Z a0 consts_1 p s m meth c "com/example/archive_packager/archivepackager/dc/AttributeIsTypePinLaw" "law" code 16 (some .boolean)) (P : Pos Z consts_1 n0 p l e room_1 s m args below meth c T h 11 214) (hu0 : ¬ (x0 &&& (7 : Int32)) = 0) (A : Exa Z h nsp "com/example/archive_packager/archivepackager/xml/Namespace") (G : Fld Z h nsp "com/example/archive_packager/archivepackager/xml/Namespace" "uri" "Ljava/lang/String;" (.ref ur)) (S : Str Z h ur (txt 84)) (Sn : Str Z h nm nms) (hn : ¬ nms = (txt 88)) :
    Jvm.Own.Run p.tables e below (Jvm.Own.Ends Z consts_1 n0 room_1 below (Ret1 fun v h' => v = .int 1) s) T (fr m 419 [.val (.int x0), .val (.int x1), .val (.int x2), .val (.int x3), .val (.int (x0 &&& (7 : Int32))), .val (.ref pf), .val (.ref ur), .val (.ref nsp), .val (.int (1 : Int32)), .val (.ref nm), .val (.int (0 : Int32)), .val (.int (x1 &&& (3 : Int32))), .val (.int c0), .val (.int c1), .val (.int c2), .val (.int c3)] []) := by
  obtain ⟨hw, hEL, Sz, hz, YX, XX, GX, SX, YD, XD, GD, SDt, hdl⟩ := id wd
  have wS : ∀ a ∈ Bundle.stringAtoms, a.before a0 Z = true := fun d hd => hw d ((by decide +kernel : ∀ d ∈ Bundle.stringAtoms, d ∈ tables_1) d hd)
  refine blk C P [.iload_n 0, .iconst 5, .ishr, .iconst 1, .iand] (by decide +kernel) (pc' := 424) (L' := [.val (.int x0), .val (.int x1), .val (.int x2), .val (.int x3), .val (.int (x0 &&& (7 : Int32))), .val (.ref pf), .val (.ref ur), .val (.ref nsp), .val (.int (1 : Int32)), .val (.ref nm), .val (.int (0 : Int32)), .val (.int (x1 &&& (3 : Int32))), .val (.int c0), .val (.int c1), .val (.int c2), .val (.int c3)]) (S' := [.int ((x0 >>> ((5 : Int32) &&& 31)) &&& (1 : Int32))]) rfl ?_
  refine b_if C P (cd := .eq) (o := 8) (by decide +kernel) (pc' := 432) (by decide) (pn := 427) rfl (fun (q1 : ((x0 >>> ((5 : Int32) &&& 31)) &&& (1 : Int32)) = 0) => ?_) (fun (q1 : ¬ ((x0 >>> ((5 : Int32) &&& 31)) &&& (1 : Int32)) = 0) => ?_)
  · skip
    refine blk C P [.iload_n 3, .bipush 24, .ishr, .sipush 255, .iand, .i2c] (by decide +kernel) (pc' := 441) (L' := [.val (.int x0), .val (.int x1), .val (.int x2), .val (.int x3), .val (.int (x0 &&& (7 : Int32))), .val (.ref pf), .val (.ref ur), .val (.ref nsp), .val (.int (1 : Int32)), .val (.ref nm), .val (.int (0 : Int32)), .val (.int (x1 &&& (3 : Int32))), .val (.int c0), .val (.int c1), .val (.int c2), .val (.int c3)]) (S' := [.int (c16 ((x3 >>> ((24 : Int32) &&& 31)) &&& (255 : Int32)))]) rfl ?_
    refine c_static C P (idx := 9) (y := (⟨"java/lang/String", "valueOf", "(C)Ljava/lang/String;"⟩ : MethodName)) (ybytes := jdk_42_method_139_code) (ymax := 1) (yret := (some (.object "java/lang/String"))) (yrm := ({ frames := 2, cells := 2, slots := 5, locals := 28 } : Room)) (by decide +kernel) (hw _ (List.mem_of_getElem? (i := 0) rfl)) (hw _ (List.mem_of_getElem? (i := 1) rfl)) (hw _ (List.mem_of_getElem? (i := 2) rfl)) (hw _ (List.mem_of_getElem? (i := 3) rfl)) (by decide) [.int (c16 ((x3 >>> ((24 : Int32) &&& 31)) &&& (255 : Int32)))] [] (k_valueOf l hw hEL Sz hz (c16 ((x3 >>> ((24 : Int32) &&& 31)) &&& (255 : Int32))) P.old latv) (le_ _ _ rfl) (W := 0) (le_ _ _ rfl) (by decide +kernel : parseMethodDescriptor "(C)Ljava/lang/String;" = some ⟨[.char], some (.object "java/lang/String")⟩) rfl rfl rfl (le_ _ _ rfl) (le_ _ _ rfl) (le_ _ _ rfl) (pc' := 444) rfl (fun T2 h2 v2 P2 Q2 => ?_)
    replace P2 := P2.more (k' := 13) (n' := 219) (le_ _ _ rfl) (le_ _ _ rfl)
    obtain ⟨b2, rfl, E2, S2⟩ := Q2
    refine blk C P2 [.astore 12] (by decide +kernel) (pc' := 446) (L' := [.val (.int x0), .val (.int x1), .val (.int x2), .val (.int x3), .val (.int (x0 &&& (7 : Int32))), .val (.ref pf), .val (.ref ur), .val (.ref nsp), .val (.int (1 : Int32)), .val (.ref nm), .val (.int (0 : Int32)), .val (.int (x1 &&& (3 : Int32))), .val (.ref b2), .val (.int c1), .val (.int c2), .val (.int c3)]) (S' := []) rfl ?_
    exact t446_t0c l wd x0 x1 x2 x3 pf ur nsp nm b2 c0 c1 c2 c3 C (P2.more (k' := 13) (n' := 234) (le_ _ _ rfl) (le_ _ _ rfl)) hu0 (A.ext E2) (G.ext E2) (S.ext E2) (Sn.ext E2) hn
  · skip
    refine s_ldc C P (idx := 42) (txt 86) (by decide +kernel) (hw _ (List.mem_of_getElem? (i := 86) rfl)) wS (by decide +kernel) (by decide +kernel) (by decide +kernel) (by decide +kernel) (len := 16) (by decide) (by decide) (le_ _ _ rfl) (le_ _ _ rfl) (pc' := 429) rfl (fun T3 h3 a3 P3 E3 S3 => ?_)
    replace P3 := P3.more (k' := 13) (n' := 234) (le_ _ _ rfl) (le_ _ _ rfl)
    refine b_goto C P3 (o := 15) (by decide +kernel) (pc' := 444) (by decide) ?_
    refine blk C P3 [.astore 12] (by decide +kernel) (pc' := 446) (L' := [.val (.int x0), .val (.int x1), .val (.int x2), .val (.int x3), .val (.int (x0 &&& (7 : Int32))), .val (.ref pf), .val (.ref ur), .val (.ref nsp), .val (.int (1 : Int32)), .val (.ref nm), .val (.int (0 : Int32)), .val (.int (x1 &&& (3 : Int32))), .val (.ref a3), .val (.int c1), .val (.int c2), .val (.int c3)]) (S' := []) rfl ?_
    exact t446_t0c l wd x0 x1 x2 x3 pf ur nsp nm a3 c0 c1 c2 c3 C (P3.more (k' := 13) (n' := 234) (le_ _ _ rfl) (le_ _ _ rfl)) hu0 (A.ext E3) (G.ext E3) (S.ext E3) (Sn.ext E3) hn
set_option maxRecDepth 65536 in
set_option maxHeartbeats 4000000 in
theorem t313_t (l : Launch) {Z : State} {a0 : Array Value} {n0 : Nat} {h : Heap} {z : Int32} {kX uX kD uD : Addr} {dl : List Int32} (wd : Wd Z a0 z kX uX kD uD dl) (x0 x1 x2 x3 : Int32) (pf ur nsp : Addr) (c0 c1 c2 c3 : Int32)  {p : Program} {e : Env} {s : State} {m : MethodId} {args : Array Value} {below : List Frame} {meth : Method} {c : Code} {T : State} (C : Ctx Z a0 consts_1 p s m meth c "com/example/archive_packager/archivepackager/dc/AttributeIsTypePinLaw" "law" code 16 (some .boolean)) (P : Pos Z consts_1 n0 p l e room_1 s m args below meth c T h 7 190) (hu0 : ¬ (x0 &&& (7 : Int32)) = 0) (A : Exa Z h nsp "com/example/archive_packager/archivepackager/xml/Namespace") (G : Fld Z h nsp "com/example/archive_packager/archivepackager/xml/Namespace" "uri" "Ljava/lang/String;" (.ref ur)) (S : Str Z h ur (txt 84)) (l0 : ¬ c0 < 0 ∧ ¬ (255 : Int32) < c0) (i0 : c16 c0 = c0) (l1 : ¬ c1 < 0 ∧ ¬ (255 : Int32) < c1) (i1 : c16 c1 = c1) (l2 : ¬ c2 < 0 ∧ ¬ (255 : Int32) < c2) (i2 : c16 c2 = c2) (l3 : ¬ c3 < 0 ∧ ¬ (255 : Int32) < c3) (i3 : c16 c3 = c3) :
    Jvm.Own.Run p.tables e below (Jvm.Own.Ends Z consts_1 n0 room_1 below (Ret1 fun v h' => v = .int 1) s) T (fr m 313 [.val (.int x0), .val (.int x1), .val (.int x2), .val (.int x3), .val (.int (x0 &&& (7 : Int32))), .val (.ref pf), .val (.ref ur), .val (.ref nsp), .val (.int (1 : Int32)), .unset, .unset, .val (.int (x1 &&& (3 : Int32))), .val (.int c0), .val (.int c1), .val (.int c2), .val (.int c3)] []) := by
  obtain ⟨hw, hEL, Sz, hz, YX, XX, GX, SX, YD, XD, GD, SDt, hdl⟩ := id wd
  have wS : ∀ a ∈ Bundle.stringAtoms, a.before a0 Z = true := fun d hd => hw d ((by decide +kernel : ∀ d ∈ Bundle.stringAtoms, d ∈ tables_1) d hd)
  refine s_new C P (idx := 10) (by decide +kernel) (hw _ (List.mem_of_getElem? (i := 90) rfl)) (hw _ (List.mem_of_getElem? (i := 10) rfl)) (hw _ (List.mem_of_getElem? (i := 2) rfl)) (le_ _ _ rfl) (le_ _ _ rfl) (pc' := 316) rfl (fun T1 h1 P1 E1 B1 => ?_)
  replace P1 := P1.more (k' := 8) (n' := 194) (le_ _ _ rfl) (le_ _ _ rfl)
  refine blk C P1 [.dup, .iconst 4] (by decide +kernel) (pc' := 318) (L' := [.val (.int x0), .val (.int x1), .val (.int x2), .val (.int x3), .val (.int (x0 &&& (7 : Int32))), .val (.ref pf), .val (.ref ur), .val (.ref nsp), .val (.int (1 : Int32)), .unset, .unset, .val (.int (x1 &&& (3 : Int32))), .val (.int c0), .val (.int c1), .val (.int c2), .val (.int c3)]) (S' := [.int (4 : Int32), .ref h.size, .ref h.size]) rfl ?_
  refine s_newC C P1 4 (by decide +kernel) (hw _ (List.mem_of_getElem? (i := 91) rfl)) rfl (by decide) (le_ _ _ rfl) (le_ _ _ rfl) (pc' := 320) rfl (fun T2 h2 P2 E2 V2 => ?_)
  replace P2 := P2.more (k' := 9) (n' := 198) (le_ _ _ rfl) (le_ _ _ rfl)
  refine blk C P2 [.dup, .iconst 0, .iload 12] (by decide +kernel) (pc' := 324) (L' := [.val (.int x0), .val (.int x1), .val (.int x2), .val (.int x3), .val (.int (x0 &&& (7 : Int32))), .val (.ref pf), .val (.ref ur), .val (.ref nsp), .val (.int (1 : Int32)), .unset, .unset, .val (.int (x1 &&& (3 : Int32))), .val (.int c0), .val (.int c1), .val (.int c2), .val (.int c3)]) (S' := [.int c0, .int (0 : Int32), .ref h1.size, .ref h1.size, .ref h.size, .ref h.size]) rfl ?_
  refine s_stC C P2 0 (by decide +kernel) V2 rfl (Nat.lt_of_lt_of_le (Nat.lt_succ_self _) (le_ _ _ rfl)) i0 (pc' := 325) rfl (fun T3 h3 P3 K3 V3 => ?_)
  replace V3 : Chs Z n0 h3 (h1.size) [c0, (0 : Int32), (0 : Int32), (0 : Int32)] := V3
  refine blk C P3 [.dup, .iconst 1, .iload 13] (by decide +kernel) (pc' := 329) (L' := [.val (.int x0), .val (.int x1), .val (.int x2), .val (.int x3), .val (.int (x0 &&& (7 : Int32))), .val (.ref pf), .val (.ref ur), .val (.ref nsp), .val (.int (1 : Int32)), .unset, .unset, .val (.int (x1 &&& (3 : Int32))), .val (.int c0), .val (.int c1), .val (.int c2), .val (.int c3)]) (S' := [.int c1, .int (1 : Int32), .ref h1.size, .ref h1.size, .ref h.size, .ref h.size]) rfl ?_
  refine s_stC C P3 1 (by decide +kernel) V3 rfl (Nat.lt_of_lt_of_le (Nat.lt_succ_self _) (le_ _ _ rfl)) i1 (pc' := 330) rfl (fun T4 h4 P4 K4 V4 => ?_)
  replace V4 : Chs Z n0 h4 (h1.size) [c0, c1, (0 : Int32), (0 : Int32)] := V4
  refine blk C P4 [.dup, .iconst 2, .iload 14] (by decide +kernel) (pc' := 334) (L' := [.val (.int x0), .val (.int x1), .val (.int x2), .val (.int x3), .val (.int (x0 &&& (7 : Int32))), .val (.ref pf), .val (.ref ur), .val (.ref nsp), .val (.int (1 : Int32)), .unset, .unset, .val (.int (x1 &&& (3 : Int32))), .val (.int c0), .val (.int c1), .val (.int c2), .val (.int c3)]) (S' := [.int c2, .int (2 : Int32), .ref h1.size, .ref h1.size, .ref h.size, .ref h.size]) rfl ?_
  refine s_stC C P4 2 (by decide +kernel) V4 rfl (Nat.lt_of_lt_of_le (Nat.lt_succ_self _) (le_ _ _ rfl)) i2 (pc' := 335) rfl (fun T5 h5 P5 K5 V5 => ?_)
  replace V5 : Chs Z n0 h5 (h1.size) [c0, c1, c2, (0 : Int32)] := V5
  refine blk C P5 [.dup, .iconst 3, .iload 15] (by decide +kernel) (pc' := 339) (L' := [.val (.int x0), .val (.int x1), .val (.int x2), .val (.int x3), .val (.int (x0 &&& (7 : Int32))), .val (.ref pf), .val (.ref ur), .val (.ref nsp), .val (.int (1 : Int32)), .unset, .unset, .val (.int (x1 &&& (3 : Int32))), .val (.int c0), .val (.int c1), .val (.int c2), .val (.int c3)]) (S' := [.int c3, .int (3 : Int32), .ref h1.size, .ref h1.size, .ref h.size, .ref h.size]) rfl ?_
  refine s_stC C P5 3 (by decide +kernel) V5 rfl (Nat.lt_of_lt_of_le (Nat.lt_succ_self _) (le_ _ _ rfl)) i3 (pc' := 340) rfl (fun T6 h6 P6 K6 V6 => ?_)
  replace V6 : Chs Z n0 h6 (h1.size) [c0, c1, c2, c3] := V6
  have B8 := (B1.ext (exK (exK (exK (exK E2 K3 (Nat.le_refl _)) K4 (Nat.le_refl _)) K5 (Nat.le_refl _)) K6 (Nat.le_refl _)))
  refine c_newStr C P6 hw Sz hz (idx := 31) (cs := [c0, c1, c2, c3]) (rest := [.ref h.size]) (W := 1) (by decide +kernel) (hw _ (List.mem_of_getElem? (i := 92) rfl)) (hw _ (List.mem_of_getElem? (i := 93) rfl)) B8 V6 (latS l0 (latS l1 (latS l2 (latS l3 lat0)))) (by simp) rfl (le_ _ _ rfl) (le_ _ _ rfl) (le_ _ _ rfl) (le_ _ _ rfl) (le_ _ _ rfl) (pc' := 343) rfl (fun T7 h7 P7 K7 S7 => ?_)
  replace P7 := P7.more (k' := 11) (n' := 206) (le_ _ _ rfl) (le_ _ _ rfl)
  refine blk C P7 [.astore 9, .iload 12, .bipush 116] (by decide +kernel) (pc' := 349) (L' := [.val (.int x0), .val (.int x1), .val (.int x2), .val (.int x3), .val (.int (x0 &&& (7 : Int32))), .val (.ref pf), .val (.ref ur), .val (.ref nsp), .val (.int (1 : Int32)), .val (.ref h.size), .unset, .val (.int (x1 &&& (3 : Int32))), .val (.int c0), .val (.int c1), .val (.int c2), .val (.int c3)]) (S' := [.int (116 : Int32), .int c0]) rfl ?_
  refine b_cm C P7 (cd := .ne) (o := 28) (by decide +kernel) (pc' := 377) (by decide) (pn := 352) rfl (fun (q9 : ¬ c0 = (116 : Int32)) => ?_) (fun (q9 : c0 = (116 : Int32)) => ?_)
  · skip
    refine blk C P7 [.iconst 0, .istore 10] (by decide +kernel) (pc' := 380) (L' := [.val (.int x0), .val (.int x1), .val (.int x2), .val (.int x3), .val (.int (x0 &&& (7 : Int32))), .val (.ref pf), .val (.ref ur), .val (.ref nsp), .val (.int (1 : Int32)), .val (.ref h.size), .val (.int (0 : Int32)), .val (.int (x1 &&& (3 : Int32))), .val (.int c0), .val (.int c1), .val (.int c2), .val (.int c3)]) (S' := []) rfl ?_
    refine b_goto C P7 (o := 39) (by decide +kernel) (pc' := 419) (by decide) ?_
    exact t419_t0c l wd x0 x1 x2 x3 pf ur nsp (h.size) c0 c1 c2 c3 C (P7.more (k' := 11) (n' := 214) (le_ _ _ rfl) (le_ _ _ rfl)) hu0 (A.ext (exK (exK (exK (exK (exK (exT E1 E2) K3 (E1).1) K4 (E1).1) K5 (E1).1) K6 (E1).1) K7 (Nat.le_refl _))) (G.ext (exK (exK (exK (exK (exK (exT E1 E2) K3 (E1).1) K4 (E1).1) K5 (E1).1) K6 (E1).1) K7 (Nat.le_refl _))) (S.ext (exK (exK (exK (exK (exK (exT E1 E2) K3 (E1).1) K4 (E1).1) K5 (E1).1) K6 (E1).1) K7 (Nat.le_refl _))) S7 (fun z => q9 (ne4.mp (z.trans (by decide +kernel : (txt 88) = [(116 : Int32), 121, 112, 101]))).1)
  · skip
    refine blk C P7 [.iload 13, .bipush 121] (by decide +kernel) (pc' := 356) (L' := [.val (.int x0), .val (.int x1), .val (.int x2), .val (.int x3), .val (.int (x0 &&& (7 : Int32))), .val (.ref pf), .val (.ref ur), .val (.ref nsp), .val (.int (1 : Int32)), .val (.ref h.size), .unset, .val (.int (x1 &&& (3 : Int32))), .val (.int c0), .val (.int c1), .val (.int c2), .val (.int c3)]) (S' := [.int (121 : Int32), .int c1]) rfl ?_
    refine b_cm C P7 (cd := .ne) (o := 21) (by decide +kernel) (pc' := 377) (by decide) (pn := 359) rfl (fun (q10 : ¬ c1 = (121 : Int32)) => ?_) (fun (q10 : c1 = (121 : Int32)) => ?_)
    · skip
      refine blk C P7 [.iconst 0, .istore 10] (by decide +kernel) (pc' := 380) (L' := [.val (.int x0), .val (.int x1), .val (.int x2), .val (.int x3), .val (.int (x0 &&& (7 : Int32))), .val (.ref pf), .val (.ref ur), .val (.ref nsp), .val (.int (1 : Int32)), .val (.ref h.size), .val (.int (0 : Int32)), .val (.int (x1 &&& (3 : Int32))), .val (.int c0), .val (.int c1), .val (.int c2), .val (.int c3)]) (S' := []) rfl ?_
      refine b_goto C P7 (o := 39) (by decide +kernel) (pc' := 419) (by decide) ?_
      exact t419_t0c l wd x0 x1 x2 x3 pf ur nsp (h.size) c0 c1 c2 c3 C (P7.more (k' := 11) (n' := 214) (le_ _ _ rfl) (le_ _ _ rfl)) hu0 (A.ext (exK (exK (exK (exK (exK (exT E1 E2) K3 (E1).1) K4 (E1).1) K5 (E1).1) K6 (E1).1) K7 (Nat.le_refl _))) (G.ext (exK (exK (exK (exK (exK (exT E1 E2) K3 (E1).1) K4 (E1).1) K5 (E1).1) K6 (E1).1) K7 (Nat.le_refl _))) (S.ext (exK (exK (exK (exK (exK (exT E1 E2) K3 (E1).1) K4 (E1).1) K5 (E1).1) K6 (E1).1) K7 (Nat.le_refl _))) S7 (fun z => q10 (ne4.mp (z.trans (by decide +kernel : (txt 88) = [(116 : Int32), 121, 112, 101]))).2.1)
    · skip
      refine blk C P7 [.iload 14, .bipush 112] (by decide +kernel) (pc' := 363) (L' := [.val (.int x0), .val (.int x1), .val (.int x2), .val (.int x3), .val (.int (x0 &&& (7 : Int32))), .val (.ref pf), .val (.ref ur), .val (.ref nsp), .val (.int (1 : Int32)), .val (.ref h.size), .unset, .val (.int (x1 &&& (3 : Int32))), .val (.int c0), .val (.int c1), .val (.int c2), .val (.int c3)]) (S' := [.int (112 : Int32), .int c2]) rfl ?_
      refine b_cm C P7 (cd := .ne) (o := 14) (by decide +kernel) (pc' := 377) (by decide) (pn := 366) rfl (fun (q11 : ¬ c2 = (112 : Int32)) => ?_) (fun (q11 : c2 = (112 : Int32)) => ?_)
      · skip
        refine blk C P7 [.iconst 0, .istore 10] (by decide +kernel) (pc' := 380) (L' := [.val (.int x0), .val (.int x1), .val (.int x2), .val (.int x3), .val (.int (x0 &&& (7 : Int32))), .val (.ref pf), .val (.ref ur), .val (.ref nsp), .val (.int (1 : Int32)), .val (.ref h.size), .val (.int (0 : Int32)), .val (.int (x1 &&& (3 : Int32))), .val (.int c0), .val (.int c1), .val (.int c2), .val (.int c3)]) (S' := []) rfl ?_
        refine b_goto C P7 (o := 39) (by decide +kernel) (pc' := 419) (by decide) ?_
        exact t419_t0c l wd x0 x1 x2 x3 pf ur nsp (h.size) c0 c1 c2 c3 C (P7.more (k' := 11) (n' := 214) (le_ _ _ rfl) (le_ _ _ rfl)) hu0 (A.ext (exK (exK (exK (exK (exK (exT E1 E2) K3 (E1).1) K4 (E1).1) K5 (E1).1) K6 (E1).1) K7 (Nat.le_refl _))) (G.ext (exK (exK (exK (exK (exK (exT E1 E2) K3 (E1).1) K4 (E1).1) K5 (E1).1) K6 (E1).1) K7 (Nat.le_refl _))) (S.ext (exK (exK (exK (exK (exK (exT E1 E2) K3 (E1).1) K4 (E1).1) K5 (E1).1) K6 (E1).1) K7 (Nat.le_refl _))) S7 (fun z => q11 (ne4.mp (z.trans (by decide +kernel : (txt 88) = [(116 : Int32), 121, 112, 101]))).2.2.1)
      · skip
        refine blk C P7 [.iload 15, .bipush 101] (by decide +kernel) (pc' := 370) (L' := [.val (.int x0), .val (.int x1), .val (.int x2), .val (.int x3), .val (.int (x0 &&& (7 : Int32))), .val (.ref pf), .val (.ref ur), .val (.ref nsp), .val (.int (1 : Int32)), .val (.ref h.size), .unset, .val (.int (x1 &&& (3 : Int32))), .val (.int c0), .val (.int c1), .val (.int c2), .val (.int c3)]) (S' := [.int (101 : Int32), .int c3]) rfl ?_
        refine b_cm C P7 (cd := .ne) (o := 7) (by decide +kernel) (pc' := 377) (by decide) (pn := 373) rfl (fun (q12 : ¬ c3 = (101 : Int32)) => ?_) (fun (q12 : c3 = (101 : Int32)) => ?_)
        · skip
          refine blk C P7 [.iconst 0, .istore 10] (by decide +kernel) (pc' := 380) (L' := [.val (.int x0), .val (.int x1), .val (.int x2), .val (.int x3), .val (.int (x0 &&& (7 : Int32))), .val (.ref pf), .val (.ref ur), .val (.ref nsp), .val (.int (1 : Int32)), .val (.ref h.size), .val (.int (0 : Int32)), .val (.int (x1 &&& (3 : Int32))), .val (.int c0), .val (.int c1), .val (.int c2), .val (.int c3)]) (S' := []) rfl ?_
          refine b_goto C P7 (o := 39) (by decide +kernel) (pc' := 419) (by decide) ?_
          exact t419_t0c l wd x0 x1 x2 x3 pf ur nsp (h.size) c0 c1 c2 c3 C (P7.more (k' := 11) (n' := 214) (le_ _ _ rfl) (le_ _ _ rfl)) hu0 (A.ext (exK (exK (exK (exK (exK (exT E1 E2) K3 (E1).1) K4 (E1).1) K5 (E1).1) K6 (E1).1) K7 (Nat.le_refl _))) (G.ext (exK (exK (exK (exK (exK (exT E1 E2) K3 (E1).1) K4 (E1).1) K5 (E1).1) K6 (E1).1) K7 (Nat.le_refl _))) (S.ext (exK (exK (exK (exK (exK (exT E1 E2) K3 (E1).1) K4 (E1).1) K5 (E1).1) K6 (E1).1) K7 (Nat.le_refl _))) S7 (fun z => q12 (ne4.mp (z.trans (by decide +kernel : (txt 88) = [(116 : Int32), 121, 112, 101]))).2.2.2)
        · skip
          refine blk C P7 [.iconst 1] (by decide +kernel) (pc' := 374) (L' := [.val (.int x0), .val (.int x1), .val (.int x2), .val (.int x3), .val (.int (x0 &&& (7 : Int32))), .val (.ref pf), .val (.ref ur), .val (.ref nsp), .val (.int (1 : Int32)), .val (.ref h.size), .unset, .val (.int (x1 &&& (3 : Int32))), .val (.int c0), .val (.int c1), .val (.int c2), .val (.int c3)]) (S' := [.int (1 : Int32)]) rfl ?_
          refine b_goto C P7 (o := 4) (by decide +kernel) (pc' := 378) (by decide) ?_
          refine blk C P7 [.istore 10] (by decide +kernel) (pc' := 380) (L' := [.val (.int x0), .val (.int x1), .val (.int x2), .val (.int x3), .val (.int (x0 &&& (7 : Int32))), .val (.ref pf), .val (.ref ur), .val (.ref nsp), .val (.int (1 : Int32)), .val (.ref h.size), .val (.int (1 : Int32)), .val (.int (x1 &&& (3 : Int32))), .val (.int c0), .val (.int c1), .val (.int c2), .val (.int c3)]) (S' := []) rfl ?_
          refine b_goto C P7 (o := 39) (by decide +kernel) (pc' := 419) (by decide) ?_
          exact t419_t1c l wd x0 x1 x2 x3 pf ur nsp (h.size) c0 c1 c2 c3 C (P7.more (k' := 11) (n' := 214) (le_ _ _ rfl) (le_ _ _ rfl)) hu0 (A.ext (exK (exK (exK (exK (exK (exT E1 E2) K3 (E1).1) K4 (E1).1) K5 (E1).1) K6 (E1).1) K7 (Nat.le_refl _))) (G.ext (exK (exK (exK (exK (exK (exT E1 E2) K3 (E1).1) K4 (E1).1) K5 (E1).1) K6 (E1).1) K7 (Nat.le_refl _))) (S.ext (exK (exK (exK (exK (exK (exT E1 E2) K3 (E1).1) K4 (E1).1) K5 (E1).1) K6 (E1).1) K7 (Nat.le_refl _))) ((show [c0, c1, c2, c3] = (txt 88) by rw [q9, q10, q11, q12]; decide +kernel) ▸ S7)
set_option maxRecDepth 65536 in
set_option maxHeartbeats 4000000 in
theorem t289_t (l : Launch) {Z : State} {a0 : Array Value} {n0 : Nat} {h : Heap} {z : Int32} {kX uX kD uD : Addr} {dl : List Int32} (wd : Wd Z a0 z kX uX kD uD dl) (x0 x1 x2 x3 : Int32) (pf ur nsp : Addr) (c0 c1 c2 : Int32)  {p : Program} {e : Env} {s : State} {m : MethodId} {args : Array Value} {below : List Frame} {meth : Method} {c : Code} {T : State} (C : Ctx Z a0 consts_1 p s m meth c "com/example/archive_packager/archivepackager/dc/AttributeIsTypePinLaw" "law" code 16 (some .boolean)) (P : Pos Z consts_1 n0 p l e room_1 s m args below meth c T h 7 190) (hu0 : ¬ (x0 &&& (7 : Int32)) = 0) (A : Exa Z h nsp "com/example/archive_packager/archivepackager/xml/Namespace") (G : Fld Z h nsp "com/example/archive_packager/archivepackager/xml/Namespace" "uri" "Ljava/lang/String;" (.ref ur)) (S : Str Z h ur (txt 84)) (l0 : ¬ c0 < 0 ∧ ¬ (255 : Int32) < c0) (i0 : c16 c0 = c0) (l1 : ¬ c1 < 0 ∧ ¬ (255 : Int32) < c1) (i1 : c16 c1 = c1) (l2 : ¬ c2 < 0 ∧ ¬ (255 : Int32) < c2) (i2 : c16 c2 = c2) :
    Jvm.Own.Run p.tables e below (Jvm.Own.Ends Z consts_1 n0 room_1 below (Ret1 fun v h' => v = .int 1) s) T (fr m 289 [.val (.int x0), .val (.int x1), .val (.int x2), .val (.int x3), .val (.int (x0 &&& (7 : Int32))), .val (.ref pf), .val (.ref ur), .val (.ref nsp), .val (.int (1 : Int32)), .unset, .unset, .val (.int (x1 &&& (3 : Int32))), .val (.int c0), .val (.int c1), .val (.int c2), .unset] []) := by
  obtain ⟨hw, hEL, Sz, hz, YX, XX, GX, SX, YD, XD, GD, SDt, hdl⟩ := id wd
  refine blk C P [.iload_n 1, .iconst 5, .ishr, .iconst 1, .iand] (by decide +kernel) (pc' := 294) (L' := [.val (.int x0), .val (.int x1), .val (.int x2), .val (.int x3), .val (.int (x0 &&& (7 : Int32))), .val (.ref pf), .val (.ref ur), .val (.ref nsp), .val (.int (1 : Int32)), .unset, .unset, .val (.int (x1 &&& (3 : Int32))), .val (.int c0), .val (.int c1), .val (.int c2), .unset]) (S' := [.int ((x1 >>> ((5 : Int32) &&& 31)) &&& (1 : Int32))]) rfl ?_
  refine b_if C P (cd := .eq) (o := 8) (by decide +kernel) (pc' := 302) (by decide) (pn := 297) rfl (fun (q1 : ((x1 >>> ((5 : Int32) &&& 31)) &&& (1 : Int32)) = 0) => ?_) (fun (q1 : ¬ ((x1 >>> ((5 : Int32) &&& 31)) &&& (1 : Int32)) = 0) => ?_)
  · skip
    refine blk C P [.iload_n 2, .bipush 24, .ishr, .sipush 255, .iand, .i2c, .istore 15] (by decide +kernel) (pc' := 313) (L' := [.val (.int x0), .val (.int x1), .val (.int x2), .val (.int x3), .val (.int (x0 &&& (7 : Int32))), .val (.ref pf), .val (.ref ur), .val (.ref nsp), .val (.int (1 : Int32)), .unset, .unset, .val (.int (x1 &&& (3 : Int32))), .val (.int c0), .val (.int c1), .val (.int c2), .val (.int (c16 ((x2 >>> ((24 : Int32) &&& 31)) &&& (255 : Int32))))]) (S' := []) rfl ?_
    exact t313_t l wd x0 x1 x2 x3 pf ur nsp c0 c1 c2 (c16 ((x2 >>> ((24 : Int32) &&& 31)) &&& (255 : Int32))) C (P.more (k' := 7) (n' := 190) (le_ _ _ rfl) (le_ _ _ rfl)) hu0 A G S l0 i0 l1 i1 l2 i2 latv (c16_idem _)
  · skip
    refine blk C P [.bipush 101] (by decide +kernel) (pc' := 299) (L' := [.val (.int x0), .val (.int x1), .val (.int x2), .val (.int x3), .val (.int (x0 &&& (7 : Int32))), .val (.ref pf), .val (.ref ur), .val (.ref nsp), .val (.int (1 : Int32)), .unset, .unset, .val (.int (x1 &&& (3 : Int32))), .val (.int c0), .val (.int c1), .val (.int c2), .unset]) (S' := [.int (101 : Int32)]) rfl ?_
    refine b_goto C P (o := 12) (by decide +kernel) (pc' := 311) (by decide) ?_
    refine blk C P [.istore 15] (by decide +kernel) (pc' := 313) (L' := [.val (.int x0), .val (.int x1), .val (.int x2), .val (.int x3), .val (.int (x0 &&& (7 : Int32))), .val (.ref pf), .val (.ref ur), .val (.ref nsp), .val (.int (1 : Int32)), .unset, .unset, .val (.int (x1 &&& (3 : Int32))), .val (.int c0), .val (.int c1), .val (.int c2), .val (.int (101 : Int32))]) (S' := []) rfl ?_
    exact t313_t l wd x0 x1 x2 x3 pf ur nsp c0 c1 c2 (101 : Int32) C (P.more (k' := 7) (n' := 190) (le_ _ _ rfl) (le_ _ _ rfl)) hu0 A G S l0 i0 l1 i1 l2 i2 (by decide) (by decide)
set_option maxRecDepth 65536 in
set_option maxHeartbeats 4000000 in
theorem t265_t (l : Launch) {Z : State} {a0 : Array Value} {n0 : Nat} {h : Heap} {z : Int32} {kX uX kD uD : Addr} {dl : List Int32} (wd : Wd Z a0 z kX uX kD uD dl) (x0 x1 x2 x3 : Int32) (pf ur nsp : Addr) (c0 c1 : Int32)  {p : Program} {e : Env} {s : State} {m : MethodId} {args : Array Value} {below : List Frame} {meth : Method} {c : Code} {T : State} (C : Ctx Z a0 consts_1 p s m meth c "com/example/archive_packager/archivepackager/dc/AttributeIsTypePinLaw" "law" code 16 (some .boolean)) (P : Pos Z consts_1 n0 p l e room_1 s m args below meth c T h 7 190) (hu0 : ¬ (x0 &&& (7 : Int32)) = 0) (A : Exa Z h nsp "com/example/archive_packager/archivepackager/xml/Namespace") (G : Fld Z h nsp "com/example/archive_packager/archivepackager/xml/Namespace" "uri" "Ljava/lang/String;" (.ref ur)) (S : Str Z h ur (txt 84)) (l0 : ¬ c0 < 0 ∧ ¬ (255 : Int32) < c0) (i0 : c16 c0 = c0) (l1 : ¬ c1 < 0 ∧ ¬ (255 : Int32) < c1) (i1 : c16 c1 = c1) :
    Jvm.Own.Run p.tables e below (Jvm.Own.Ends Z consts_1 n0 room_1 below (Ret1 fun v h' => v = .int 1) s) T (fr m 265 [.val (.int x0), .val (.int x1), .val (.int x2), .val (.int x3), .val (.int (x0 &&& (7 : Int32))), .val (.ref pf), .val (.ref ur), .val (.ref nsp), .val (.int (1 : Int32)), .unset, .unset, .val (.int (x1 &&& (3 : Int32))), .val (.int c0), .val (.int c1), .unset, .unset] []) := by
  obtain ⟨hw, hEL, Sz, hz, YX, XX, GX, SX, YD, XD, GD, SDt, hdl⟩ := id wd
  refine blk C P [.iload_n 1, .iconst 4, .ishr, .iconst 1, .iand] (by decide +kernel) (pc' := 270) (L' := [.val (.int x0), .val (.int x1), .val (.int x2), .val (.int x3), .val (.int (x0 &&& (7 : Int32))), .val (.ref pf), .val (.ref ur), .val (.ref nsp), .val (.int (1 : Int32)), .unset, .unset, .val (.int (x1 &&& (3 : Int32))), .val (.int c0), .val (.int c1), .unset, .unset]) (S' := [.int ((x1 >>> ((4 : Int32) &&& 31)) &&& (1 : Int32))]) rfl ?_
  refine b_if C P (cd := .eq) (o := 8) (by decide +kernel) (pc' := 278) (by decide) (pn := 273) rfl (fun (q1 : ((x1 >>> ((4 : Int32) &&& 31)) &&& (1 : Int32)) = 0) => ?_) (fun (q1 : ¬ ((x1 >>> ((4 : Int32) &&& 31)) &&& (1 : Int32)) = 0) => ?_)
  · skip
    refine blk C P [.iload_n 2, .bipush 16, .ishr, .sipush 255, .iand, .i2c, .istore 14] (by decide +kernel) (pc' := 289) (L' := [.val (.int x0), .val (.int x1), .val (.int x2), .val (.int x3), .val (.int (x0 &&& (7 : Int32))), .val (.ref pf), .val (.ref ur), .val (.ref nsp), .val (.int (1 : Int32)), .unset, .unset, .val (.int (x1 &&& (3 : Int32))), .val (.int c0), .val (.int c1), .val (.int (c16 ((x2 >>> ((16 : Int32) &&& 31)) &&& (255 : Int32)))), .unset]) (S' := []) rfl ?_
    exact t289_t l wd x0 x1 x2 x3 pf ur nsp c0 c1 (c16 ((x2 >>> ((16 : Int32) &&& 31)) &&& (255 : Int32))) C (P.more (k' := 7) (n' := 190) (le_ _ _ rfl) (le_ _ _ rfl)) hu0 A G S l0 i0 l1 i1 latv (c16_idem _)
  · skip
    refine blk C P [.bipush 112] (by decide +kernel) (pc' := 275) (L' := [.val (.int x0), .val (.int x1), .val (.int x2), .val (.int x3), .val (.int (x0 &&& (7 : Int32))), .val (.ref pf), .val (.ref ur), .val (.ref nsp), .val (.int (1 : Int32)), .unset, .unset, .val (.int (x1 &&& (3 : Int32))), .val (.int c0), .val (.int c1), .unset, .unset]) (S' := [.int (112 : Int32)]) rfl ?_
    refine b_goto C P (o := 12) (by decide +kernel) (pc' := 287) (by decide) ?_
    refine blk C P [.istore 14] (by decide +kernel) (pc' := 289) (L' := [.val (.int x0), .val (.int x1), .val (.int x2), .val (.int x3), .val (.int (x0 &&& (7 : Int32))), .val (.ref pf), .val (.ref ur), .val (.ref nsp), .val (.int (1 : Int32)), .unset, .unset, .val (.int (x1 &&& (3 : Int32))), .val (.int c0), .val (.int c1), .val (.int (112 : Int32)), .unset]) (S' := []) rfl ?_
    exact t289_t l wd x0 x1 x2 x3 pf ur nsp c0 c1 (112 : Int32) C (P.more (k' := 7) (n' := 190) (le_ _ _ rfl) (le_ _ _ rfl)) hu0 A G S l0 i0 l1 i1 (by decide) (by decide)
set_option maxRecDepth 65536 in
set_option maxHeartbeats 4000000 in
theorem t241_t (l : Launch) {Z : State} {a0 : Array Value} {n0 : Nat} {h : Heap} {z : Int32} {kX uX kD uD : Addr} {dl : List Int32} (wd : Wd Z a0 z kX uX kD uD dl) (x0 x1 x2 x3 : Int32) (pf ur nsp : Addr) (c0 : Int32)  {p : Program} {e : Env} {s : State} {m : MethodId} {args : Array Value} {below : List Frame} {meth : Method} {c : Code} {T : State} (C : Ctx Z a0 consts_1 p s m meth c "com/example/archive_packager/archivepackager/dc/AttributeIsTypePinLaw" "law" code 16 (some .boolean)) (P : Pos Z consts_1 n0 p l e room_1 s m args below meth c T h 7 190) (hu0 : ¬ (x0 &&& (7 : Int32)) = 0) (A : Exa Z h nsp "com/example/archive_packager/archivepackager/xml/Namespace") (G : Fld Z h nsp "com/example/archive_packager/archivepackager/xml/Namespace" "uri" "Ljava/lang/String;" (.ref ur)) (S : Str Z h ur (txt 84)) (l0 : ¬ c0 < 0 ∧ ¬ (255 : Int32) < c0) (i0 : c16 c0 = c0) :
    Jvm.Own.Run p.tables e below (Jvm.Own.Ends Z consts_1 n0 room_1 below (Ret1 fun v h' => v = .int 1) s) T (fr m 241 [.val (.int x0), .val (.int x1), .val (.int x2), .val (.int x3), .val (.int (x0 &&& (7 : Int32))), .val (.ref pf), .val (.ref ur), .val (.ref nsp), .val (.int (1 : Int32)), .unset, .unset, .val (.int (x1 &&& (3 : Int32))), .val (.int c0), .unset, .unset, .unset] []) := by
  obtain ⟨hw, hEL, Sz, hz, YX, XX, GX, SX, YD, XD, GD, SDt, hdl⟩ := id wd
  refine blk C P [.iload_n 1, .iconst 3, .ishr, .iconst 1, .iand] (by decide +kernel) (pc' := 246) (L' := [.val (.int x0), .val (.int x1), .val (.int x2), .val (.int x3), .val (.int (x0 &&& (7 : Int32))), .val (.ref pf), .val (.ref ur), .val (.ref nsp), .val (.int (1 : Int32)), .unset, .unset, .val (.int (x1 &&& (3 : Int32))), .val (.int c0), .unset, .unset, .unset]) (S' := [.int ((x1 >>> ((3 : Int32) &&& 31)) &&& (1 : Int32))]) rfl ?_
  refine b_if C P (cd := .eq) (o := 8) (by decide +kernel) (pc' := 254) (by decide) (pn := 249) rfl (fun (q1 : ((x1 >>> ((3 : Int32) &&& 31)) &&& (1 : Int32)) = 0) => ?_) (fun (q1 : ¬ ((x1 >>> ((3 : Int32) &&& 31)) &&& (1 : Int32)) = 0) => ?_)
  · skip
    refine blk C P [.iload_n 2, .bipush 8, .ishr, .sipush 255, .iand, .i2c, .istore 13] (by decide +kernel) (pc' := 265) (L' := [.val (.int x0), .val (.int x1), .val (.int x2), .val (.int x3), .val (.int (x0 &&& (7 : Int32))), .val (.ref pf), .val (.ref ur), .val (.ref nsp), .val (.int (1 : Int32)), .unset, .unset, .val (.int (x1 &&& (3 : Int32))), .val (.int c0), .val (.int (c16 ((x2 >>> ((8 : Int32) &&& 31)) &&& (255 : Int32)))), .unset, .unset]) (S' := []) rfl ?_
    exact t265_t l wd x0 x1 x2 x3 pf ur nsp c0 (c16 ((x2 >>> ((8 : Int32) &&& 31)) &&& (255 : Int32))) C (P.more (k' := 7) (n' := 190) (le_ _ _ rfl) (le_ _ _ rfl)) hu0 A G S l0 i0 latv (c16_idem _)
  · skip
    refine blk C P [.bipush 121] (by decide +kernel) (pc' := 251) (L' := [.val (.int x0), .val (.int x1), .val (.int x2), .val (.int x3), .val (.int (x0 &&& (7 : Int32))), .val (.ref pf), .val (.ref ur), .val (.ref nsp), .val (.int (1 : Int32)), .unset, .unset, .val (.int (x1 &&& (3 : Int32))), .val (.int c0), .unset, .unset, .unset]) (S' := [.int (121 : Int32)]) rfl ?_
    refine b_goto C P (o := 12) (by decide +kernel) (pc' := 263) (by decide) ?_
    refine blk C P [.istore 13] (by decide +kernel) (pc' := 265) (L' := [.val (.int x0), .val (.int x1), .val (.int x2), .val (.int x3), .val (.int (x0 &&& (7 : Int32))), .val (.ref pf), .val (.ref ur), .val (.ref nsp), .val (.int (1 : Int32)), .unset, .unset, .val (.int (x1 &&& (3 : Int32))), .val (.int c0), .val (.int (121 : Int32)), .unset, .unset]) (S' := []) rfl ?_
    exact t265_t l wd x0 x1 x2 x3 pf ur nsp c0 (121 : Int32) C (P.more (k' := 7) (n' := 190) (le_ _ _ rfl) (le_ _ _ rfl)) hu0 A G S l0 i0 (by decide) (by decide)
set_option maxRecDepth 65536 in
set_option maxHeartbeats 4000000 in
theorem t194_t (l : Launch) {Z : State} {a0 : Array Value} {n0 : Nat} {h : Heap} {z : Int32} {kX uX kD uD : Addr} {dl : List Int32} (wd : Wd Z a0 z kX uX kD uD dl) (x0 x1 x2 x3 : Int32) (pf ur nsp : Addr)  {p : Program} {e : Env} {s : State} {m : MethodId} {args : Array Value} {below : List Frame} {meth : Method} {c : Code} {T : State} (C : Ctx Z a0 consts_1 p s m meth c "com/example/archive_packager/archivepackager/dc/AttributeIsTypePinLaw" "law" code 16 (some .boolean)) (P : Pos Z consts_1 n0 p l e room_1 s m args below meth c T h 7 190) (hu0 : ¬ (x0 &&& (7 : Int32)) = 0) (A : Exa Z h nsp "com/example/archive_packager/archivepackager/xml/Namespace") (G : Fld Z h nsp "com/example/archive_packager/archivepackager/xml/Namespace" "uri" "Ljava/lang/String;" (.ref ur)) (S : Str Z h ur (txt 84)) :
    Jvm.Own.Run p.tables e below (Jvm.Own.Ends Z consts_1 n0 room_1 below (Ret1 fun v h' => v = .int 1) s) T (fr m 194 [.val (.int x0), .val (.int x1), .val (.int x2), .val (.int x3), .val (.int (x0 &&& (7 : Int32))), .val (.ref pf), .val (.ref ur), .val (.ref nsp), .val (.int (1 : Int32)), .unset, .unset, .unset, .unset, .unset, .unset, .unset] []) := by
  obtain ⟨hw, hEL, Sz, hz, YX, XX, GX, SX, YD, XD, GD, SDt, hdl⟩ := id wd
  have wS : ∀ a ∈ Bundle.stringAtoms, a.before a0 Z = true := fun d hd => hw d ((by decide +kernel : ∀ d ∈ Bundle.stringAtoms, d ∈ tables_1) d hd)
  refine blk C P [.iload_n 1, .iconst 3, .iand, .istore 11, .iload 11] (by decide +kernel) (pc' := 201) (L' := [.val (.int x0), .val (.int x1), .val (.int x2), .val (.int x3), .val (.int (x0 &&& (7 : Int32))), .val (.ref pf), .val (.ref ur), .val (.ref nsp), .val (.int (1 : Int32)), .unset, .unset, .val (.int (x1 &&& (3 : Int32))), .unset, .unset, .unset, .unset]) (S' := [.int (x1 &&& (3 : Int32))]) rfl ?_
  refine b_if C P (cd := .ne) (o := 13) (by decide +kernel) (pc' := 214) (by decide) (pn := 204) rfl (fun (q1 : ¬ (x1 &&& (3 : Int32)) = 0) => ?_) (fun (q1 : (x1 &&& (3 : Int32)) = 0) => ?_)
  · skip
    refine blk C P [.iload 11, .iconst 1] (by decide +kernel) (pc' := 217) (L' := [.val (.int x0), .val (.int x1), .val (.int x2), .val (.int x3), .val (.int (x0 &&& (7 : Int32))), .val (.ref pf), .val (.ref ur), .val (.ref nsp), .val (.int (1 : Int32)), .unset, .unset, .val (.int (x1 &&& (3 : Int32))), .unset, .unset, .unset, .unset]) (S' := [.int (1 : Int32), .int (x1 &&& (3 : Int32))]) rfl ?_
    refine b_cm C P (cd := .ne) (o := 166) (by decide +kernel) (pc' := 383) (by decide) (pn := 220) rfl (fun (q2 : ¬ (x1 &&& (3 : Int32)) = (1 : Int32)) => ?_) (fun (q2 : (x1 &&& (3 : Int32)) = (1 : Int32)) => ?_)
    · skip
      refine blk C P [.iload 11, .iconst 2] (by decide +kernel) (pc' := 386) (L' := [.val (.int x0), .val (.int x1), .val (.int x2), .val (.int x3), .val (.int (x0 &&& (7 : Int32))), .val (.ref pf), .val (.ref ur), .val (.ref nsp), .val (.int (1 : Int32)), .unset, .unset, .val (.int (x1 &&& (3 : Int32))), .unset, .unset, .unset, .unset]) (S' := [.int (2 : Int32), .int (x1 &&& (3 : Int32))]) rfl ?_
      refine b_cm C P (cd := .ne) (o := 13) (by decide +kernel) (pc' := 399) (by decide) (pn := 389) rfl (fun (q3 : ¬ (x1 &&& (3 : Int32)) = (2 : Int32)) => ?_) (fun (q3 : (x1 &&& (3 : Int32)) = (2 : Int32)) => ?_)
      · skip
        refine blk C P [.iload_n 1, .iconst 2, .ishr, .iconst 1, .iand] (by decide +kernel) (pc' := 404) (L' := [.val (.int x0), .val (.int x1), .val (.int x2), .val (.int x3), .val (.int (x0 &&& (7 : Int32))), .val (.ref pf), .val (.ref ur), .val (.ref nsp), .val (.int (1 : Int32)), .unset, .unset, .val (.int (x1 &&& (3 : Int32))), .unset, .unset, .unset, .unset]) (S' := [.int ((x1 >>> ((2 : Int32) &&& 31)) &&& (1 : Int32))]) rfl ?_
        refine b_if C P (cd := .eq) (o := 8) (by decide +kernel) (pc' := 412) (by decide) (pn := 407) rfl (fun (q4 : ((x1 >>> ((2 : Int32) &&& 31)) &&& (1 : Int32)) = 0) => ?_) (fun (q4 : ¬ ((x1 >>> ((2 : Int32) &&& 31)) &&& (1 : Int32)) = 0) => ?_)
        · skip
          refine s_ldc C P (idx := 48) (txt 29) (by decide +kernel) (hw _ (List.mem_of_getElem? (i := 29) rfl)) wS (by decide +kernel) (by decide +kernel) (by decide +kernel) (by decide +kernel) (len := 20) (by decide) (by decide) (le_ _ _ rfl) (le_ _ _ rfl) (pc' := 414) rfl (fun T5 h5 a5 P5 E5 S5 => ?_)
          replace P5 := P5.more (k' := 9) (n' := 214) (le_ _ _ rfl) (le_ _ _ rfl)
          refine blk C P5 [.astore 9, .iconst 0, .istore 10] (by decide +kernel) (pc' := 419) (L' := [.val (.int x0), .val (.int x1), .val (.int x2), .val (.int x3), .val (.int (x0 &&& (7 : Int32))), .val (.ref pf), .val (.ref ur), .val (.ref nsp), .val (.int (1 : Int32)), .val (.ref a5), .val (.int (0 : Int32)), .val (.int (x1 &&& (3 : Int32))), .unset, .unset, .unset, .unset]) (S' := []) rfl ?_
          exact t419_t0u l wd x0 x1 x2 x3 pf ur nsp a5 C (P5.more (k' := 11) (n' := 214) (le_ _ _ rfl) (le_ _ _ rfl)) hu0 (A.ext E5) (G.ext E5) (S.ext E5) S5 (by decide +kernel)
        · skip
          refine s_ldc C P (idx := 46) (txt 83) (by decide +kernel) (hw _ (List.mem_of_getElem? (i := 83) rfl)) wS (by decide +kernel) (by decide +kernel) (by decide +kernel) (by decide +kernel) (len := 12) (by decide) (by decide) (le_ _ _ rfl) (le_ _ _ rfl) (pc' := 409) rfl (fun T6 h6 a6 P6 E6 S6 => ?_)
          replace P6 := P6.more (k' := 9) (n' := 206) (le_ _ _ rfl) (le_ _ _ rfl)
          refine b_goto C P6 (o := 5) (by decide +kernel) (pc' := 414) (by decide) ?_
          refine blk C P6 [.astore 9, .iconst 0, .istore 10] (by decide +kernel) (pc' := 419) (L' := [.val (.int x0), .val (.int x1), .val (.int x2), .val (.int x3), .val (.int (x0 &&& (7 : Int32))), .val (.ref pf), .val (.ref ur), .val (.ref nsp), .val (.int (1 : Int32)), .val (.ref a6), .val (.int (0 : Int32)), .val (.int (x1 &&& (3 : Int32))), .unset, .unset, .unset, .unset]) (S' := []) rfl ?_
          exact t419_t0u l wd x0 x1 x2 x3 pf ur nsp a6 C (P6.more (k' := 11) (n' := 214) (le_ _ _ rfl) (le_ _ _ rfl)) hu0 (A.ext E6) (G.ext E6) (S.ext E6) S6 (by decide +kernel)
      · skip
        refine s_ldc C P (idx := 44) (txt 85) (by decide +kernel) (hw _ (List.mem_of_getElem? (i := 85) rfl)) wS (by decide +kernel) (by decide +kernel) (by decide +kernel) (by decide +kernel) (len := 16) (by decide) (by decide) (le_ _ _ rfl) (le_ _ _ rfl) (pc' := 391) rfl (fun T7 h7 a7 P7 E7 S7 => ?_)
        replace P7 := P7.more (k' := 9) (n' := 210) (le_ _ _ rfl) (le_ _ _ rfl)
        refine blk C P7 [.astore 9, .iconst 0, .istore 10] (by decide +kernel) (pc' := 396) (L' := [.val (.int x0), .val (.int x1), .val (.int x2), .val (.int x3), .val (.int (x0 &&& (7 : Int32))), .val (.ref pf), .val (.ref ur), .val (.ref nsp), .val (.int (1 : Int32)), .val (.ref a7), .val (.int (0 : Int32)), .val (.int (x1 &&& (3 : Int32))), .unset, .unset, .unset, .unset]) (S' := []) rfl ?_
        refine b_goto C P7 (o := 23) (by decide +kernel) (pc' := 419) (by decide) ?_
        exact t419_t0u l wd x0 x1 x2 x3 pf ur nsp a7 C (P7.more (k' := 11) (n' := 214) (le_ _ _ rfl) (le_ _ _ rfl)) hu0 (A.ext E7) (G.ext E7) (S.ext E7) S7 (by decide +kernel)
    · skip
      refine blk C P [.iload_n 1, .iconst 2, .ishr, .iconst 1, .iand] (by decide +kernel) (pc' := 225) (L' := [.val (.int x0), .val (.int x1), .val (.int x2), .val (.int x3), .val (.int (x0 &&& (7 : Int32))), .val (.ref pf), .val (.ref ur), .val (.ref nsp), .val (.int (1 : Int32)), .unset, .unset, .val (.int (x1 &&& (3 : Int32))), .unset, .unset, .unset, .unset]) (S' := [.int ((x1 >>> ((2 : Int32) &&& 31)) &&& (1 : Int32))]) rfl ?_
      refine b_if C P (cd := .eq) (o := 8) (by decide +kernel) (pc' := 233) (by decide) (pn := 228) rfl (fun (q8 : ((x1 >>> ((2 : Int32) &&& 31)) &&& (1 : Int32)) = 0) => ?_) (fun (q8 : ¬ ((x1 >>> ((2 : Int32) &&& 31)) &&& (1 : Int32)) = 0) => ?_)
      · skip
        refine blk C P [.iload_n 2, .sipush 255, .iand, .i2c, .istore 12] (by decide +kernel) (pc' := 241) (L' := [.val (.int x0), .val (.int x1), .val (.int x2), .val (.int x3), .val (.int (x0 &&& (7 : Int32))), .val (.ref pf), .val (.ref ur), .val (.ref nsp), .val (.int (1 : Int32)), .unset, .unset, .val (.int (x1 &&& (3 : Int32))), .val (.int (c16 (x2 &&& (255 : Int32)))), .unset, .unset, .unset]) (S' := []) rfl ?_
        exact t241_t l wd x0 x1 x2 x3 pf ur nsp (c16 (x2 &&& (255 : Int32))) C (P.more (k' := 7) (n' := 190) (le_ _ _ rfl) (le_ _ _ rfl)) hu0 A G S latv (c16_idem _)
      · skip
        refine blk C P [.bipush 116] (by decide +kernel) (pc' := 230) (L' := [.val (.int x0), .val (.int x1), .val (.int x2), .val (.int x3), .val (.int (x0 &&& (7 : Int32))), .val (.ref pf), .val (.ref ur), .val (.ref nsp), .val (.int (1 : Int32)), .unset, .unset, .val (.int (x1 &&& (3 : Int32))), .unset, .unset, .unset, .unset]) (S' := [.int (116 : Int32)]) rfl ?_
        refine b_goto C P (o := 9) (by decide +kernel) (pc' := 239) (by decide) ?_
        refine blk C P [.istore 12] (by decide +kernel) (pc' := 241) (L' := [.val (.int x0), .val (.int x1), .val (.int x2), .val (.int x3), .val (.int (x0 &&& (7 : Int32))), .val (.ref pf), .val (.ref ur), .val (.ref nsp), .val (.int (1 : Int32)), .unset, .unset, .val (.int (x1 &&& (3 : Int32))), .val (.int (116 : Int32)), .unset, .unset, .unset]) (S' := []) rfl ?_
        exact t241_t l wd x0 x1 x2 x3 pf ur nsp (116 : Int32) C (P.more (k' := 7) (n' := 190) (le_ _ _ rfl) (le_ _ _ rfl)) hu0 A G S (by decide) (by decide)
  · skip
    refine s_ldc C P (idx := 42) (txt 86) (by decide +kernel) (hw _ (List.mem_of_getElem? (i := 86) rfl)) wS (by decide +kernel) (by decide +kernel) (by decide +kernel) (by decide +kernel) (len := 16) (by decide) (by decide) (le_ _ _ rfl) (le_ _ _ rfl) (pc' := 206) rfl (fun T9 h9 a9 P9 E9 S9 => ?_)
    replace P9 := P9.more (k' := 9) (n' := 210) (le_ _ _ rfl) (le_ _ _ rfl)
    refine blk C P9 [.astore 9, .iconst 1, .istore 10] (by decide +kernel) (pc' := 211) (L' := [.val (.int x0), .val (.int x1), .val (.int x2), .val (.int x3), .val (.int (x0 &&& (7 : Int32))), .val (.ref pf), .val (.ref ur), .val (.ref nsp), .val (.int (1 : Int32)), .val (.ref a9), .val (.int (1 : Int32)), .val (.int (x1 &&& (3 : Int32))), .unset, .unset, .unset, .unset]) (S' := []) rfl ?_
    refine b_goto C P9 (o := 208) (by decide +kernel) (pc' := 419) (by decide) ?_
    exact t419_t1u l wd x0 x1 x2 x3 pf ur nsp a9 C (P9.more (k' := 11) (n' := 214) (le_ _ _ rfl) (le_ _ _ rfl)) hu0 (A.ext E9) (G.ext E9) (S.ext E9) ((by decide +kernel : (txt 86) = (txt 88)) ▸ S9)
set_option maxRecDepth 65536 in
set_option maxHeartbeats 4000000 in
theorem t446_f1u (l : Launch) {Z : State} {a0 : Array Value} {n0 : Nat} {h : Heap} {z : Int32} {kX uX kD uD : Addr} {dl : List Int32} (wd : Wd Z a0 z kX uX kD uD dl) (x0 x1 x2 x3 : Int32) (pf ur nsp : Addr) (nm vl : Addr) {us : List Int32} {p : Program} {e : Env} {s : State} {m : MethodId} {args : Array Value} {below : List Frame} {meth : Method} {c : Code} {T : State} (C : Ctx Z a0 consts_1 p s m meth c "com/example/archive_packager/archivepackager/dc/AttributeIsTypePinLaw" "law" code 16 (some .boolean)) (P : Pos Z consts_1 n0 p l e room_1 s m args below meth c T h 13 234) (hu0 : ¬ (x0 &&& (7 : Int32)) = 0) (A : Exa Z h nsp "com/example/archive_packager/archivepackager/xml/Namespace") (G : Fld Z h nsp "com/example/archive_packager/archivepackager/xml/Namespace" "uri" "Ljava/lang/String;" (.ref ur)) (S : Str Z h ur us) (hu : ¬ us = (txt 84)) (Sn : Str Z h nm (txt 88)) :
    Jvm.Own.Run p.tables e below (Jvm.Own.Ends Z consts_1 n0 room_1 below (Ret1 fun v h' => v = .int 1) s) T (fr m 446 [.val (.int x0), .val (.int x1), .val (.int x2), .val (.int x3), .val (.int (x0 &&& (7 : Int32))), .val (.ref pf), .val (.ref ur), .val (.ref nsp), .val (.int (0 : Int32)), .val (.ref nm), .val (.int (1 : Int32)), .val (.int (x1 &&& (3 : Int32))), .val (.ref vl), .unset, .unset, .unset] []) := by
  obtain ⟨hw, hEL, Sz, hz, YX, XX, GX, SX, YD, XD, GD, SDt, hdl⟩ := id wd
  refine blk C P [.iload_n 0, .iconst 4, .ishr, .iconst 1, .iand] (by decide +kernel) (pc' := 451) (L' := [.val (.int x0), .val (.int x1), .val (.int x2), .val (.int x3), .val (.int (x0 &&& (7 : Int32))), .val (.ref pf), .val (.ref ur), .val (.ref nsp), .val (.int (0 : Int32)), .val (.ref nm), .val (.int (1 : Int32)), .val (.int (x1 &&& (3 : Int32))), .val (.ref vl), .unset, .unset, .unset]) (S' := [.int ((x0 >>> ((4 : Int32) &&& 31)) &&& (1 : Int32))]) rfl ?_
  refine b_if C P (cd := .eq) (o := 9) (by decide +kernel) (pc' := 460) (by decide) (pn := 454) rfl (fun (q1 : ((x0 >>> ((4 : Int32) &&& 31)) &&& (1 : Int32)) = 0) => ?_) (fun (q1 : ¬ ((x0 >>> ((4 : Int32) &&& 31)) &&& (1 : Int32)) = 0) => ?_)
  · skip
    refine blk C P [.aconst_null, .astore 13] (by decide +kernel) (pc' := 463) (L' := [.val (.int x0), .val (.int x1), .val (.int x2), .val (.int x3), .val (.int (x0 &&& (7 : Int32))), .val (.ref pf), .val (.ref ur), .val (.ref nsp), .val (.int (0 : Int32)), .val (.ref nm), .val (.int (1 : Int32)), .val (.int (x1 &&& (3 : Int32))), .val (.ref vl), .val (.null), .unset, .unset]) (S' := []) rfl ?_
    refine s_new C P (idx := 50) (by decide +kernel) (hw _ (List.mem_of_getElem? (i := 30) rfl)) (hw _ (List.mem_of_getElem? (i := 31) rfl)) (hw _ (List.mem_of_getElem? (i := 32) rfl)) (le_ _ _ rfl) (le_ _ _ rfl) (pc' := 466) rfl (fun T2 h2 P2 E2 B2 => ?_)
    replace P2 := P2.more (k' := 14) (n' := 238) (le_ _ _ rfl) (le_ _ _ rfl)
    refine blk C P2 [.dup, .aload 7, .aload 9, .aload 12, .aload 13] (by decide +kernel) (pc' := 475) (L' := [.val (.int x0), .val (.int x1), .val (.int x2), .val (.int x3), .val (.int (x0 &&& (7 : Int32))), .val (.ref pf), .val (.ref ur), .val (.ref nsp), .val (.int (0 : Int32)), .val (.ref nm), .val (.int (1 : Int32)), .val (.int (x1 &&& (3 : Int32))), .val (.ref vl), .val (.null), .unset, .unset]) (S' := [.null, .ref vl, .ref nm, .ref nsp, .ref h.size, .ref h.size]) rfl ?_
    refine c_special C P2 (idx := 52) (y := (⟨"com/example/archive_packager/archivepackager/dc/DcElement$Attribute", "<init>", "(Lcom/example/archive_packager/archivepackager/xml/Namespace;Ljava/lang/String;Ljava/lang/String;Lcom/example/archive_packager/archivepackager/xml/Namespace;)V"⟩ : MethodName)) (ybytes := prog_13_method_1_code) (ymax := 5) (yrm := ({ frames := 2, cells := 0, slots := 0, locals := 24 } : Room)) rfl (by decide +kernel) (hw _ (List.mem_of_getElem? (i := 33) rfl)) (hw _ (List.mem_of_getElem? (i := 34) rfl)) (hw _ (List.mem_of_getElem? (i := 32) rfl)) (hw _ (List.mem_of_getElem? (i := 35) rfl)) (by decide) [.ref nsp, .ref nm, .ref vl, .null] [.ref h.size] (k_att_rn l wd (h.size) nsp nm vl P2.old B2) (le_ _ _ rfl) (W := 1) (le_ _ _ rfl) (by decide +kernel : parseMethodDescriptor "(Lcom/example/archive_packager/archivepackager/xml/Namespace;Ljava/lang/String;Ljava/lang/String;Lcom/example/archive_packager/archivepackager/xml/Namespace;)V" = some ⟨[(.object "com/example/archive_packager/archivepackager/xml/Namespace"), (.object "java/lang/String"), (.object "java/lang/String"), (.object "com/example/archive_packager/archivepackager/xml/Namespace")], none⟩) rfl rfl rfl (le_ _ _ rfl) (le_ _ _ rfl) (le_ _ _ rfl) (pc' := 478) rfl (fun T3 h3 P3 Q3 => ?_)
    replace P3 := P3.more (k' := 14) (n' := 238) (le_ _ _ rfl) (le_ _ _ rfl)
    obtain ⟨K3, A3, F3_0, F3_1⟩ := Q3
    refine blk C P3 [.astore 14, .iload 4] (by decide +kernel) (pc' := 482) (L' := [.val (.int x0), .val (.int x1), .val (.int x2), .val (.int x3), .val (.int (x0 &&& (7 : Int32))), .val (.ref pf), .val (.ref ur), .val (.ref nsp), .val (.int (0 : Int32)), .val (.ref nm), .val (.int (1 : Int32)), .val (.int (x1 &&& (3 : Int32))), .val (.ref vl), .val (.null), .val (.ref h.size), .unset]) (S' := [.int (x0 &&& (7 : Int32))]) rfl ?_
    refine b_ifN C P3 (cd := .eq) (o := 17) (by decide +kernel) (pc' := 485) rfl hu0 ?_
    refine blk C P3 [.iload 8] (by decide +kernel) (pc' := 487) (L' := [.val (.int x0), .val (.int x1), .val (.int x2), .val (.int x3), .val (.int (x0 &&& (7 : Int32))), .val (.ref pf), .val (.ref ur), .val (.ref nsp), .val (.int (0 : Int32)), .val (.ref nm), .val (.int (1 : Int32)), .val (.int (x1 &&& (3 : Int32))), .val (.ref vl), .val (.null), .val (.ref h.size), .unset]) (S' := [.int (0 : Int32)]) rfl ?_
    refine b_ifY C P3 (cd := .eq) (o := 12) (by decide +kernel) (pc' := 499) (by decide) (by decide : (0 : Int32) = 0) ?_
    refine blk C P3 [.iconst 0, .istore 15, .aload 14] (by decide +kernel) (pc' := 504) (L' := [.val (.int x0), .val (.int x1), .val (.int x2), .val (.int x3), .val (.int (x0 &&& (7 : Int32))), .val (.ref pf), .val (.ref ur), .val (.ref nsp), .val (.int (0 : Int32)), .val (.ref nm), .val (.int (1 : Int32)), .val (.int (x1 &&& (3 : Int32))), .val (.ref vl), .val (.null), .val (.ref h.size), .val (.int (0 : Int32))]) (S' := [.ref h.size]) rfl ?_
    refine c_virtual C P3 (idx := 55) (y := (⟨"com/example/archive_packager/archivepackager/dc/DcElement$Attribute", "isType", "()Z"⟩ : MethodName)) (K0 := "com/example/archive_packager/archivepackager/dc/DcElement$Attribute") (ybytes := prog_13_method_2_code) (ymax := 1) (yret := (some .boolean)) (yrm := ({ frames := 2, cells := 2, slots := 20, locals := 28 } : Room)) (by decide +kernel) (hw _ (List.mem_of_getElem? (i := 50) rfl)) (hw _ (List.mem_of_getElem? (i := 51) rfl)) (hw _ (List.mem_of_getElem? (i := 53) rfl)) (hw _ (List.mem_of_getElem? (i := 52) rfl)) (hw _ (List.mem_of_getElem? (i := 32) rfl)) (hw _ (List.mem_of_getElem? (i := 54) rfl)) (by decide) A3 [] [] (k_is_r l wd (h.size) nsp ur nm P3.old F3_0 F3_1 (A.ext (exK E2 K3 (Nat.le_refl _))) (G.ext (exK E2 K3 (Nat.le_refl _))) (S.ext (exK E2 K3 (Nat.le_refl _))) (Sn.ext (exK E2 K3 (Nat.le_refl _)))) (le_ _ _ rfl) (W := 0) (le_ _ _ rfl) (by decide +kernel : parseMethodDescriptor "()Z" = some ⟨[], some .boolean⟩) rfl rfl rfl (le_ _ _ rfl) (le_ _ _ rfl) (le_ _ _ rfl) (pc' := 507) rfl (fun T4 h4 v4 P4 Q4 => ?_)
    replace P4 := P4.more (k' := 16) (n' := 258) (le_ _ _ rfl) (le_ _ _ rfl)
    obtain ⟨Q4, E4⟩ := Q4
    rcases Q4 with ⟨rfl, Q4⟩ | ⟨rfl, Q4⟩
    · skip
      exact absurd Q4 (fun z => hu z.1)
    · skip
      refine blk C P4 [.iload 15] (by decide +kernel) (pc' := 509) (L' := [.val (.int x0), .val (.int x1), .val (.int x2), .val (.int x3), .val (.int (x0 &&& (7 : Int32))), .val (.ref pf), .val (.ref ur), .val (.ref nsp), .val (.int (0 : Int32)), .val (.ref nm), .val (.int (1 : Int32)), .val (.int (x1 &&& (3 : Int32))), .val (.ref vl), .val (.null), .val (.ref h.size), .val (.int (0 : Int32))]) (S' := [.int (0 : Int32), .int (0 : Int32)]) rfl ?_
      refine b_cmN C P4 (cd := .ne) (o := 7) (by decide +kernel) (pc' := 512) rfl (by decide : (0 : Int32) = (0 : Int32)) ?_
      refine blk C P4 [.iconst 1] (by decide +kernel) (pc' := 513) (L' := [.val (.int x0), .val (.int x1), .val (.int x2), .val (.int x3), .val (.int (x0 &&& (7 : Int32))), .val (.ref pf), .val (.ref ur), .val (.ref nsp), .val (.int (0 : Int32)), .val (.ref nm), .val (.int (1 : Int32)), .val (.int (x1 &&& (3 : Int32))), .val (.ref vl), .val (.null), .val (.ref h.size), .val (.int (0 : Int32))]) (S' := [.int (1 : Int32)]) rfl ?_
      refine b_goto C P4 (o := 4) (by decide +kernel) (pc' := 517) (by decide) ?_
      exact r_int C P4 (ty := .boolean) (by simp) rfl (by decide +kernel) (le_ _ _ rfl) (le_ _ _ rfl) ⟨_, rfl, rfl⟩
  · skip
    refine s_gets C P (idx := 15) (by decide +kernel) (hw _ (List.mem_of_getElem? (i := 87) rfl)) YX (pc' := 457) rfl (fun T5 P5 => ?_)
    refine b_goto C P5 (o := 4) (by decide +kernel) (pc' := 461) (by decide) ?_
    refine blk C P5 [.astore 13] (by decide +kernel) (pc' := 463) (L' := [.val (.int x0), .val (.int x1), .val (.int x2), .val (.int x3), .val (.int (x0 &&& (7 : Int32))), .val (.ref pf), .val (.ref ur), .val (.ref nsp), .val (.int (0 : Int32)), .val (.ref nm), .val (.int (1 : Int32)), .val (.int (x1 &&& (3 : Int32))), .val (.ref vl), .val (.ref kX), .unset, .unset]) (S' := []) rfl ?_
    refine s_new C P5 (idx := 50) (by decide +kernel) (hw _ (List.mem_of_getElem? (i := 30) rfl)) (hw _ (List.mem_of_getElem? (i := 31) rfl)) (hw _ (List.mem_of_getElem? (i := 32) rfl)) (le_ _ _ rfl) (le_ _ _ rfl) (pc' := 466) rfl (fun T6 h6 P6 E6 B6 => ?_)
    replace P6 := P6.more (k' := 14) (n' := 238) (le_ _ _ rfl) (le_ _ _ rfl)
    refine blk C P6 [.dup, .aload 7, .aload 9, .aload 12, .aload 13] (by decide +kernel) (pc' := 475) (L' := [.val (.int x0), .val (.int x1), .val (.int x2), .val (.int x3), .val (.int (x0 &&& (7 : Int32))), .val (.ref pf), .val (.ref ur), .val (.ref nsp), .val (.int (0 : Int32)), .val (.ref nm), .val (.int (1 : Int32)), .val (.int (x1 &&& (3 : Int32))), .val (.ref vl), .val (.ref kX), .unset, .unset]) (S' := [.ref kX, .ref vl, .ref nm, .ref nsp, .ref h.size, .ref h.size]) rfl ?_
    refine c_special C P6 (idx := 52) (y := (⟨"com/example/archive_packager/archivepackager/dc/DcElement$Attribute", "<init>", "(Lcom/example/archive_packager/archivepackager/xml/Namespace;Ljava/lang/String;Ljava/lang/String;Lcom/example/archive_packager/archivepackager/xml/Namespace;)V"⟩ : MethodName)) (ybytes := prog_13_method_1_code) (ymax := 5) (yrm := ({ frames := 2, cells := 0, slots := 0, locals := 24 } : Room)) rfl (by decide +kernel) (hw _ (List.mem_of_getElem? (i := 33) rfl)) (hw _ (List.mem_of_getElem? (i := 34) rfl)) (hw _ (List.mem_of_getElem? (i := 32) rfl)) (hw _ (List.mem_of_getElem? (i := 35) rfl)) (by decide) [.ref nsp, .ref nm, .ref vl, .ref kX] [.ref h.size] (k_att_rr l wd (h.size) nsp nm vl kX P6.old B6) (le_ _ _ rfl) (W := 1) (le_ _ _ rfl) (by decide +kernel : parseMethodDescriptor "(Lcom/example/archive_packager/archivepackager/xml/Namespace;Ljava/lang/String;Ljava/lang/String;Lcom/example/archive_packager/archivepackager/xml/Namespace;)V" = some ⟨[(.object "com/example/archive_packager/archivepackager/xml/Namespace"), (.object "java/lang/String"), (.object "java/lang/String"), (.object "com/example/archive_packager/archivepackager/xml/Namespace")], none⟩) rfl rfl rfl (le_ _ _ rfl) (le_ _ _ rfl) (le_ _ _ rfl) (pc' := 478) rfl (fun T7 h7 P7 Q7 => ?_)
    replace P7 := P7.more (k' := 14) (n' := 238) (le_ _ _ rfl) (le_ _ _ rfl)
    obtain ⟨K7, A7, F7_0, F7_1⟩ := Q7
    refine blk C P7 [.astore 14, .iload 4] (by decide +kernel) (pc' := 482) (L' := [.val (.int x0), .val (.int x1), .val (.int x2), .val (.int x3), .val (.int (x0 &&& (7 : Int32))), .val (.ref pf), .val (.ref ur), .val (.ref nsp), .val (.int (0 : Int32)), .val (.ref nm), .val (.int (1 : Int32)), .val (.int (x1 &&& (3 : Int32))), .val (.ref vl), .val (.ref kX), .val (.ref h.size), .unset]) (S' := [.int (x0 &&& (7 : Int32))]) rfl ?_
    refine b_ifN C P7 (cd := .eq) (o := 17) (by decide +kernel) (pc' := 485) rfl hu0 ?_
    refine blk C P7 [.iload 8] (by decide +kernel) (pc' := 487) (L' := [.val (.int x0), .val (.int x1), .val (.int x2), .val (.int x3), .val (.int (x0 &&& (7 : Int32))), .val (.ref pf), .val (.ref ur), .val (.ref nsp), .val (.int (0 : Int32)), .val (.ref nm), .val (.int (1 : Int32)), .val (.int (x1 &&& (3 : Int32))), .val (.ref vl), .val (.ref kX), .val (.ref h.size), .unset]) (S' := [.int (0 : Int32)]) rfl ?_
    refine b_ifY C P7 (cd := .eq) (o := 12) (by decide +kernel) (pc' := 499) (by decide) (by decide : (0 : Int32) = 0) ?_
    refine blk C P7 [.iconst 0, .istore 15, .aload 14] (by decide +kernel) (pc' := 504) (L' := [.val (.int x0), .val (.int x1), .val (.int x2), .val (.int x3), .val (.int (x0 &&& (7 : Int32))), .val (.ref pf), .val (.ref ur), .val (.ref nsp), .val (.int (0 : Int32)), .val (.ref nm), .val (.int (1 : Int32)), .val (.int (x1 &&& (3 : Int32))), .val (.ref vl), .val (.ref kX), .val (.ref h.size), .val (.int (0 : Int32))]) (S' := [.ref h.size]) rfl ?_
    refine c_virtual C P7 (idx := 55) (y := (⟨"com/example/archive_packager/archivepackager/dc/DcElement$Attribute", "isType", "()Z"⟩ : MethodName)) (K0 := "com/example/archive_packager/archivepackager/dc/DcElement$Attribute") (ybytes := prog_13_method_2_code) (ymax := 1) (yret := (some .boolean)) (yrm := ({ frames := 2, cells := 2, slots := 20, locals := 28 } : Room)) (by decide +kernel) (hw _ (List.mem_of_getElem? (i := 50) rfl)) (hw _ (List.mem_of_getElem? (i := 51) rfl)) (hw _ (List.mem_of_getElem? (i := 53) rfl)) (hw _ (List.mem_of_getElem? (i := 52) rfl)) (hw _ (List.mem_of_getElem? (i := 32) rfl)) (hw _ (List.mem_of_getElem? (i := 54) rfl)) (by decide) A7 [] [] (k_is_r l wd (h.size) nsp ur nm P7.old F7_0 F7_1 (A.ext (exK E6 K7 (Nat.le_refl _))) (G.ext (exK E6 K7 (Nat.le_refl _))) (S.ext (exK E6 K7 (Nat.le_refl _))) (Sn.ext (exK E6 K7 (Nat.le_refl _)))) (le_ _ _ rfl) (W := 0) (le_ _ _ rfl) (by decide +kernel : parseMethodDescriptor "()Z" = some ⟨[], some .boolean⟩) rfl rfl rfl (le_ _ _ rfl) (le_ _ _ rfl) (le_ _ _ rfl) (pc' := 507) rfl (fun T8 h8 v8 P8 Q8 => ?_)
    replace P8 := P8.more (k' := 16) (n' := 258) (le_ _ _ rfl) (le_ _ _ rfl)
    obtain ⟨Q8, E8⟩ := Q8
    rcases Q8 with ⟨rfl, Q8⟩ | ⟨rfl, Q8⟩
    · skip
      exact absurd Q8 (fun z => hu z.1)
    · skip
      refine blk C P8 [.iload 15] (by decide +kernel) (pc' := 509) (L' := [.val (.int x0), .val (.int x1), .val (.int x2), .val (.int x3), .val (.int (x0 &&& (7 : Int32))), .val (.ref pf), .val (.ref ur), .val (.ref nsp), .val (.int (0 : Int32)), .val (.ref nm), .val (.int (1 : Int32)), .val (.int (x1 &&& (3 : Int32))), .val (.ref vl), .val (.ref kX), .val (.ref h.size), .val (.int (0 : Int32))]) (S' := [.int (0 : Int32), .int (0 : Int32)]) rfl ?_
      refine b_cmN C P8 (cd := .ne) (o := 7) (by decide +kernel) (pc' := 512) rfl (by decide : (0 : Int32) = (0 : Int32)) ?_
      refine blk C P8 [.iconst 1] (by decide +kernel) (pc' := 513) (L' := [.val (.int x0), .val (.int x1), .val (.int x2), .val (.int x3), .val (.int (x0 &&& (7 : Int32))), .val (.ref pf), .val (.ref ur), .val (.ref nsp), .val (.int (0 : Int32)), .val (.ref nm), .val (.int (1 : Int32)), .val (.int (x1 &&& (3 : Int32))), .val (.ref vl), .val (.ref kX), .val (.ref h.size), .val (.int (0 : Int32))]) (S' := [.int (1 : Int32)]) rfl ?_
      refine b_goto C P8 (o := 4) (by decide +kernel) (pc' := 517) (by decide) ?_
      exact r_int C P8 (ty := .boolean) (by simp) rfl (by decide +kernel) (le_ _ _ rfl) (le_ _ _ rfl) ⟨_, rfl, rfl⟩
set_option maxRecDepth 65536 in
set_option maxHeartbeats 4000000 in
theorem t419_f1u (l : Launch) {Z : State} {a0 : Array Value} {n0 : Nat} {h : Heap} {z : Int32} {kX uX kD uD : Addr} {dl : List Int32} (wd : Wd Z a0 z kX uX kD uD dl) (x0 x1 x2 x3 : Int32) (pf ur nsp : Addr) (nm : Addr) {us : List Int32} {p : Program} {e : Env} {s : State} {m : MethodId} {args : Array Value} {below : List Frame} {meth : Method} {c : Code} {T : State} (C : Ctx Z a0 consts_1 p s m meth c "com/example/archive_packager/archivepackager/dc/AttributeIsTypePinLaw" "law" code 16 (some .boolean)) (P : Pos Z consts_1 n0 p l e room_1 s m args below meth c T h 11 214) (hu0 : ¬ (x0 &&& (7 : Int32)) = 0) (A : Exa Z h nsp "com/example/archive_packager/archivepackager/xml/Namespace") (G : Fld Z h nsp "com/example/archive_packager/archivepackager/xml/Namespace" "uri" "Ljava/lang/String;" (.ref ur)) (S : Str Z h ur us) (hu : ¬ us = (txt 84)) (Sn : Str Z h nm (txt 88)) :
    Jvm.Own.Run p.tables e below (Jvm.Own.Ends Z consts_1 n0 room_1 below (Ret1 fun v h' => v = .int 1) s) T (fr m 419 [.val (.int x0), .val (.int x1), .val (.int x2), .val (.int x3), .val (.int (x0 &&& (7 : Int32))), .val (.ref pf), .val (.ref ur), .val (.ref nsp), .val (.int (0 : Int32)), .val (.ref nm), .val (.int (1 : Int32)), .val (.int (x1 &&& (3 : Int32))), .unset, .unset, .unset, .unset] []) := by
  obtain ⟨hw, hEL, Sz, hz, YX, XX, GX, SX, YD, XD, GD, SDt, hdl⟩ := id wd
  have wS : ∀ a ∈ Bundle.stringAtoms, a.before a0 Z = true := fun d hd => hw d ((by decide +kernel : ∀ d ∈ Bundle.stringAtoms, d ∈ tables_1) d hd)
  refine blk C P [.iload_n 0, .iconst 5, .ishr, .iconst 1, .iand] (by decide +kernel) (pc' := 424) (L' := [.val (.int x0), .val (.int x1), .val (.int x2), .val (.int x3), .val (.int (x0 &&& (7 : Int32))), .val (.ref pf), .val (.ref ur), .val (.ref nsp), .val (.int (0 : Int32)), .val (.ref nm), .val (.int (1 : Int32)), .val (.int (x1 &&& (3 : Int32))), .unset, .unset, .unset, .unset]) (S' := [.int ((x0 >>> ((5 : Int32) &&& 31)) &&& (1 : Int32))]) rfl ?_
  refine b_if C P (cd := .eq) (o := 8) (by decide +kernel) (pc' := 432) (by decide) (pn := 427) rfl (fun (q1 : ((x0 >>> ((5 : Int32) &&& 31)) &&& (1 : Int32)) = 0) => ?_) (fun (q1 : ¬ ((x0 >>> ((5 : Int32) &&& 31)) &&& (1 : Int32)) = 0) => ?_)
  · skip
    refine blk C P [.iload_n 3, .bipush 24, .ishr, .sipush 255, .iand, .i2c] (by decide +kernel) (pc' := 441) (L' := [.val (.int x0), .val (.int x1), .val (.int x2), .val (.int x3), .val (.int (x0 &&& (7 : Int32))), .val (.ref pf), .val (.ref ur), .val (.ref nsp), .val (.int (0 : Int32)), .val (.ref nm), .val (.int (1 : Int32)), .val (.int (x1 &&& (3 : Int32))), .unset, .unset, .unset, .unset]) (S' := [.int (c16 ((x3 >>> ((24 : Int32) &&& 31)) &&& (255 : Int32)))]) rfl ?_
    refine c_static C P (idx := 9) (y := (⟨"java/lang/String", "valueOf", "(C)Ljava/lang/String;"⟩ : MethodName)) (ybytes := jdk_42_method_139_code) (ymax := 1) (yret := (some (.object "java/lang/String"))) (yrm := ({ frames := 2, cells := 2, slots := 5, locals := 28 } : Room)) (by decide +kernel) (hw _ (List.mem_of_getElem? (i := 0) rfl)) (hw _ (List.mem_of_getElem? (i := 1) rfl)) (hw _ (List.mem_of_getElem? (i := 2) rfl)) (hw _ (List.mem_of_getElem? (i := 3) rfl)) (by decide) [.int (c16 ((x3 >>> ((24 : Int32) &&& 31)) &&& (255 : Int32)))] [] (k_valueOf l hw hEL Sz hz (c16 ((x3 >>> ((24 : Int32) &&& 31)) &&& (255 : Int32))) P.old latv) (le_ _ _ rfl) (W := 0) (le_ _ _ rfl) (by decide +kernel : parseMethodDescriptor "(C)Ljava/lang/String;" = some ⟨[.char], some (.object "java/lang/String")⟩) rfl rfl rfl (le_ _ _ rfl) (le_ _ _ rfl) (le_ _ _ rfl) (pc' := 444) rfl (fun T2 h2 v2 P2 Q2 => ?_)
    replace P2 := P2.more (k' := 13) (n' := 219) (le_ _ _ rfl) (le_ _ _ rfl)
    obtain ⟨b2, rfl, E2, S2⟩ := Q2
    refine blk C P2 [.astore 12] (by decide +kernel) (pc' := 446) (L' := [.val (.int x0), .val (.int x1), .val (.int x2), .val (.int x3), .val (.int (x0 &&& (7 : Int32))), .val (.ref pf), .val (.ref ur), .val (.ref nsp), .val (.int (0 : Int32)), .val (.ref nm), .val (.int (1 : Int32)), .val (.int (x1 &&& (3 : Int32))), .val (.ref b2), .unset, .unset, .unset]) (S' := []) rfl ?_
    exact t446_f1u l wd x0 x1 x2 x3 pf ur nsp nm b2 C (P2.more (k' := 13) (n' := 234) (le_ _ _ rfl) (le_ _ _ rfl)) hu0 (A.ext E2) (G.ext E2) (S.ext E2) hu (Sn.ext E2)
  · skip
    refine s_ldc C P (idx := 42) (txt 86) (by decide +kernel) (hw _ (List.mem_of_getElem? (i := 86) rfl)) wS (by decide +kernel) (by decide +kernel) (by decide +kernel) (by decide +kernel) (len := 16) (by decide) (by decide) (le_ _ _ rfl) (le_ _ _ rfl) (pc' := 429) rfl (fun T3 h3 a3 P3 E3 S3 => ?_)
    replace P3 := P3.more (k' := 13) (n' := 234) (le_ _ _ rfl) (le_ _ _ rfl)
    refine b_goto C P3 (o := 15) (by decide +kernel) (pc' := 444) (by decide) ?_
    refine blk C P3 [.astore 12] (by decide +kernel) (pc' := 446) (L' := [.val (.int x0), .val (.int x1), .val (.int x2), .val (.int x3), .val (.int (x0 &&& (7 : Int32))), .val (.ref pf), .val (.ref ur), .val (.ref nsp), .val (.int (0 : Int32)), .val (.ref nm), .val (.int (1 : Int32)), .val (.int (x1 &&& (3 : Int32))), .val (.ref a3), .unset, .unset, .unset]) (S' := []) rfl ?_
    exact t446_f1u l wd x0 x1 x2 x3 pf ur nsp nm a3 C (P3.more (k' := 13) (n' := 234) (le_ _ _ rfl) (le_ _ _ rfl)) hu0 (A.ext E3) (G.ext E3) (S.ext E3) hu (Sn.ext E3)
set_option maxRecDepth 65536 in
set_option maxHeartbeats 4000000 in
theorem t446_f1c (l : Launch) {Z : State} {a0 : Array Value} {n0 : Nat} {h : Heap} {z : Int32} {kX uX kD uD : Addr} {dl : List Int32} (wd : Wd Z a0 z kX uX kD uD dl) (x0 x1 x2 x3 : Int32) (pf ur nsp : Addr) (nm vl : Addr) (c0 c1 c2 c3 : Int32) {us : List Int32} {p : Program} {e : Env} {s : State} {m : MethodId} {args : Array Value} {below : List Frame} {meth : Method} {c : Code} {T : State} (C : Ctx Z a0 consts_1 p s m meth c "com/example/archive_packager/archivepackager/dc/AttributeIsTypePinLaw" "law" code 16 (some .boolean)) (P : Pos Z consts_1 n0 p l e room_1 s m args below meth c T h 13 234) (hu0 : ¬ (x0 &&& (7 : Int32)) = 0) (A : Exa Z h nsp "com/example/archive_packager/archivepackager/xml/Namespace") (G : Fld Z h nsp "com/example/archive_packager/archivepackager/xml/Namespace" "uri" "Ljava/lang/String;" (.ref ur)) (S : Str Z h ur us) (hu : ¬ us = (txt 84)) (Sn : Str Z h nm (txt 88)) :
    Jvm.Own.Run p.tables e below (Jvm.Own.Ends Z consts_1 n0 room_1 below (Ret1 fun v h' => v = .int 1) s) T (fr m 446 [.val (.int x0), .val (.int x1), .val (.int x2), .val (.int x3), .val (.int (x0 &&& (7 : Int32))), .val (.ref pf), .val (.ref ur), .val (.ref nsp), .val (.int (0 : Int32)), .val (.ref nm), .val (.int (1 : Int32)), .val (.int (x1 &&& (3 : Int32))), .val (.ref vl), .val (.int c1), .val (.int c2), .val (.int c3)] []) := by
  obtain ⟨hw, hEL, Sz, hz, YX, XX, GX, SX, YD, XD, GD, SDt, hdl⟩ := id wd
  refine blk C P [.iload_n 0, .iconst 4, .ishr, .iconst 1, .iand] (by decide +kernel) (pc' := 451) (L' := [.val (.int x0), .val (.int x1), .val (.int x2), .val (.int x3), .val (.int (x0 &&& (7 : Int32))), .val (.ref pf), .val (.ref ur), .val (.ref nsp), .val (.int (0 : Int32)), .val (.ref nm), .val (.int (1 : Int32)), .val (.int (x1 &&& (3 : Int32))), .val (.ref vl), .val (.int c1), .val (.int c2), .val (.int c3)]) (S' := [.int ((x0 >>> ((4 : Int32) &&& 31)) &&& (1 : Int32))]) rfl ?_
  refine b_if C P (cd := .eq) (o := 9) (by decide +kernel) (pc' := 460) (by decide) (pn := 454) rfl (fun (q1 : ((x0 >>> ((4 : Int32) &&& 31)) &&& (1 : Int32)) = 0) => ?_) (fun (q1 : ¬ ((x0 >>> ((4 : Int32) &&& 31)) &&& (1 : Int32)) = 0) => ?_)
  · skip
    refine blk C P [.aconst_null, .astore 13] (by decide +kernel) (pc' := 463) (L' := [.val (.int x0), .val (.int x1), .val (.int x2), .val (.int x3), .val (.int (x0 &&& (7 : Int32))), .val (.ref pf), .val (.ref ur), .val (.ref nsp), .val (.int (0 : Int32)), .val (.ref nm), .val (.int (1 : Int32)), .val (.int (x1 &&& (3 : Int32))), .val (.ref vl), .val (.null), .val (.int c2), .val (.int c3)]) (S' := []) rfl ?_
    refine s_new C P (idx := 50) (by decide +kernel) (hw _ (List.mem_of_getElem? (i := 30) rfl)) (hw _ (List.mem_of_getElem? (i := 31) rfl)) (hw _ (List.mem_of_getElem? (i := 32) rfl)) (le_ _ _ rfl) (le_ _ _ rfl) (pc' := 466) rfl (fun T2 h2 P2 E2 B2 => ?_)
    replace P2 := P2.more (k' := 14) (n' := 238) (le_ _ _ rfl) (le_ _ _ rfl)
    refine blk C P2 [.dup, .aload 7, .aload 9, .aload 12, .aload 13] (by decide +kernel) (pc' := 475) (L' := [.val (.int x0), .val (.int x1), .val (.int x2), .val (.int x3), .val (.int (x0 &&& (7 : Int32))), .val (.ref pf), .val (.ref ur), .val (.ref nsp), .val (.int (0 : Int32)), .val (.ref nm), .val (.int (1 : Int32)), .val (.int (x1 &&& (3 : Int32))), .val (.ref vl), .val (.null), .val (.int c2), .val (.int c3)]) (S' := [.null, .ref vl, .ref nm, .ref nsp, .ref h.size, .ref h.size]) rfl ?_
    refine c_special C P2 (idx := 52) (y := (⟨"com/example/archive_packager/archivepackager/dc/DcElement$Attribute", "<init>", "(Lcom/example/archive_packager/archivepackager/xml/Namespace;Ljava/lang/String;Ljava/lang/String;Lcom/example/archive_packager/archivepackager/xml/Namespace;)V"⟩ : MethodName)) (ybytes := prog_13_method_1_code) (ymax := 5) (yrm := ({ frames := 2, cells := 0, slots := 0, locals := 24 } : Room)) rfl (by decide +kernel) (hw _ (List.mem_of_getElem? (i := 33) rfl)) (hw _ (List.mem_of_getElem? (i := 34) rfl)) (hw _ (List.mem_of_getElem? (i := 32) rfl)) (hw _ (List.mem_of_getElem? (i := 35) rfl)) (by decide) [.ref nsp, .ref nm, .ref vl, .null] [.ref h.size] (k_att_rn l wd (h.size) nsp nm vl P2.old B2) (le_ _ _ rfl) (W := 1) (le_ _ _ rfl) (by decide +kernel : parseMethodDescriptor "(Lcom/example/archive_packager/archivepackager/xml/Namespace;Ljava/lang/String;Ljava/lang/String;Lcom/example/archive_packager/archivepackager/xml/Namespace;)V" = some ⟨[(.object "com/example/archive_packager/archivepackager/xml/Namespace"), (.object "java/lang/String"), (.object "java/lang/String"), (.object "com/example/archive_packager/archivepackager/xml/Namespace")], none⟩) rfl rfl rfl (le_ _ _ rfl) (le_ _ _ rfl) (le_ _ _ rfl) (pc' := 478) rfl (fun T3 h3 P3 Q3 => ?_)
    replace P3 := P3.more (k' := 14) (n' := 238) (le_ _ _ rfl) (le_ _ _ rfl)
    obtain ⟨K3, A3, F3_0, F3_1⟩ := Q3
    refine blk C P3 [.astore 14, .iload 4] (by decide +kernel) (pc' := 482) (L' := [.val (.int x0), .val (.int x1), .val (.int x2), .val (.int x3), .val (.int (x0 &&& (7 : Int32))), .val (.ref pf), .val (.ref ur), .val (.ref nsp), .val (.int (0 : Int32)), .val (.ref nm), .val (.int (1 : Int32)), .val (.int (x1 &&& (3 : Int32))), .val (.ref vl), .val (.null), .val (.ref h.size), .val (.int c3)]) (S' := [.int (x0 &&& (7 : Int32))]) rfl ?_
    refine b_ifN C P3 (cd := .eq) (o := 17) (by decide +kernel) (pc' := 485) rfl hu0 ?_
    refine blk C P3 [.iload 8] (by decide +kernel) (pc' := 487) (L' := [.val (.int x0), .val (.int x1), .val (.int x2), .val (.int x3), .val (.int (x0 &&& (7 : Int32))), .val (.ref pf), .val (.ref ur), .val (.ref nsp), .val (.int (0 : Int32)), .val (.ref nm), .val (.int (1 : Int32)), .val (.int (x1 &&& (3 : Int32))), .val (.ref vl), .val (.null), .val (.ref h.size), .val (.int c3)]) (S' := [.int (0 : Int32)]) rfl ?_
    refine b_ifY C P3 (cd := .eq) (o := 12) (by decide +kernel) (pc' := 499) (by decide) (by decide : (0 : Int32) = 0) ?_
    refine blk C P3 [.iconst 0, .istore 15, .aload 14] (by decide +kernel) (pc' := 504) (L' := [.val (.int x0), .val (.int x1), .val (.int x2), .val (.int x3), .val (.int (x0 &&& (7 : Int32))), .val (.ref pf), .val (.ref ur), .val (.ref nsp), .val (.int (0 : Int32)), .val (.ref nm), .val (.int (1 : Int32)), .val (.int (x1 &&& (3 : Int32))), .val (.ref vl), .val (.null), .val (.ref h.size), .val (.int (0 : Int32))]) (S' := [.ref h.size]) rfl ?_
    refine c_virtual C P3 (idx := 55) (y := (⟨"com/example/archive_packager/archivepackager/dc/DcElement$Attribute", "isType", "()Z"⟩ : MethodName)) (K0 := "com/example/archive_packager/archivepackager/dc/DcElement$Attribute") (ybytes := prog_13_method_2_code) (ymax := 1) (yret := (some .boolean)) (yrm := ({ frames := 2, cells := 2, slots := 20, locals := 28 } : Room)) (by decide +kernel) (hw _ (List.mem_of_getElem? (i := 50) rfl)) (hw _ (List.mem_of_getElem? (i := 51) rfl)) (hw _ (List.mem_of_getElem? (i := 53) rfl)) (hw _ (List.mem_of_getElem? (i := 52) rfl)) (hw _ (List.mem_of_getElem? (i := 32) rfl)) (hw _ (List.mem_of_getElem? (i := 54) rfl)) (by decide) A3 [] [] (k_is_r l wd (h.size) nsp ur nm P3.old F3_0 F3_1 (A.ext (exK E2 K3 (Nat.le_refl _))) (G.ext (exK E2 K3 (Nat.le_refl _))) (S.ext (exK E2 K3 (Nat.le_refl _))) (Sn.ext (exK E2 K3 (Nat.le_refl _)))) (le_ _ _ rfl) (W := 0) (le_ _ _ rfl) (by decide +kernel : parseMethodDescriptor "()Z" = some ⟨[], some .boolean⟩) rfl rfl rfl (le_ _ _ rfl) (le_ _ _ rfl) (le_ _ _ rfl) (pc' := 507) rfl (fun T4 h4 v4 P4 Q4 => ?_)
    replace P4 := P4.more (k' := 16) (n' := 258) (le_ _ _ rfl) (le_ _ _ rfl)
    obtain ⟨Q4, E4⟩ := Q4
    rcases Q4 with ⟨rfl, Q4⟩ | ⟨rfl, Q4⟩
    · skip
      exact absurd Q4 (fun z => hu z.1)
    · skip
      refine blk C P4 [.iload 15] (by decide +kernel) (pc' := 509) (L' := [.val (.int x0), .val (.int x1), .val (.int x2), .val (.int x3), .val (.int (x0 &&& (7 : Int32))), .val (.ref pf), .val (.ref ur), .val (.ref nsp), .val (.int (0 : Int32)), .val (.ref nm), .val (.int (1 : Int32)), .val (.int (x1 &&& (3 : Int32))), .val (.ref vl), .val (.null), .val (.ref h.size), .val (.int (0 : Int32))]) (S' := [.int (0 : Int32), .int (0 : Int32)]) rfl ?_
      refine b_cmN C P4 (cd := .ne) (o := 7) (by decide +kernel) (pc' := 512) rfl (by decide : (0 : Int32) = (0 : Int32)) ?_
      refine blk C P4 [.iconst 1] (by decide +kernel) (pc' := 513) (L' := [.val (.int x0), .val (.int x1), .val (.int x2), .val (.int x3), .val (.int (x0 &&& (7 : Int32))), .val (.ref pf), .val (.ref ur), .val (.ref nsp), .val (.int (0 : Int32)), .val (.ref nm), .val (.int (1 : Int32)), .val (.int (x1 &&& (3 : Int32))), .val (.ref vl), .val (.null), .val (.ref h.size), .val (.int (0 : Int32))]) (S' := [.int (1 : Int32)]) rfl ?_
      refine b_goto C P4 (o := 4) (by decide +kernel) (pc' := 517) (by decide) ?_
      exact r_int C P4 (ty := .boolean) (by simp) rfl (by decide +kernel) (le_ _ _ rfl) (le_ _ _ rfl) ⟨_, rfl, rfl⟩
  · skip
    refine s_gets C P (idx := 15) (by decide +kernel) (hw _ (List.mem_of_getElem? (i := 87) rfl)) YX (pc' := 457) rfl (fun T5 P5 => ?_)
    refine b_goto C P5 (o := 4) (by decide +kernel) (pc' := 461) (by decide) ?_
    refine blk C P5 [.astore 13] (by decide +kernel) (pc' := 463) (L' := [.val (.int x0), .val (.int x1), .val (.int x2), .val (.int x3), .val (.int (x0 &&& (7 : Int32))), .val (.ref pf), .val (.ref ur), .val (.ref nsp), .val (.int (0 : Int32)), .val (.ref nm), .val (.int (1 : Int32)), .val (.int (x1 &&& (3 : Int32))), .val (.ref vl), .val (.ref kX), .val (.int c2), .val (.int c3)]) (S' := []) rfl ?_
    refine s_new C P5 (idx := 50) (by decide +kernel) (hw _ (List.mem_of_getElem? (i := 30) rfl)) (hw _ (List.mem_of_getElem? (i := 31) rfl)) (hw _ (List.mem_of_getElem? (i := 32) rfl)) (le_ _ _ rfl) (le_ _ _ rfl) (pc' := 466) rfl (fun T6 h6 P6 E6 B6 => ?_)
    replace P6 := P6.more (k' := 14) (n' := 238) (le_ _ _ rfl) (le_ _ _ rfl)
    refine blk C P6 [.dup, .aload 7, .aload 9, .aload 12, .aload 13] (by decide +kernel) (pc' := 475) (L' := [.val (.int x0), .val (.int x1), .val (.int x2), .val (.int x3), .val (.int (x0 &&& (7 : Int32))), .val (.ref pf), .val (.ref ur), .val (.ref nsp), .val (.int (0 : Int32)), .val (.ref nm), .val (.int (1 : Int32)), .val (.int (x1 &&& (3 : Int32))), .val (.ref vl), .val (.ref kX), .val (.int c2), .val (.int c3)]) (S' := [.ref kX, .ref vl, .ref nm, .ref nsp, .ref h.size, .ref h.size]) rfl ?_
    refine c_special C P6 (idx := 52) (y := (⟨"com/example/archive_packager/archivepackager/dc/DcElement$Attribute", "<init>", "(Lcom/example/archive_packager/archivepackager/xml/Namespace;Ljava/lang/String;Ljava/lang/String;Lcom/example/archive_packager/archivepackager/xml/Namespace;)V"⟩ : MethodName)) (ybytes := prog_13_method_1_code) (ymax := 5) (yrm := ({ frames := 2, cells := 0, slots := 0, locals := 24 } : Room)) rfl (by decide +kernel) (hw _ (List.mem_of_getElem? (i := 33) rfl)) (hw _ (List.mem_of_getElem? (i := 34) rfl)) (hw _ (List.mem_of_getElem? (i := 32) rfl)) (hw _ (List.mem_of_getElem? (i := 35) rfl)) (by decide) [.ref nsp, .ref nm, .ref vl, .ref kX] [.ref h.size] (k_att_rr l wd (h.size) nsp nm vl kX P6.old B6) (le_ _ _ rfl) (W := 1) (le_ _ _ rfl) (by decide +kernel : parseMethodDescriptor "(Lcom/example/archive_packager/archivepackager/xml/Namespace;Ljava/lang/String;Ljava/lang/String;Lcom/example/archive_packager/archivepackager/xml/Namespace;)V" = some ⟨[(.object "com/example/archive_packager/archivepackager/xml/Namespace"), (.object "java/lang/String"), (.object "java/lang/String"), (.object "com/example/archive_packager/archivepackager/xml/Namespace")], none⟩) rfl rfl rfl (le_ _ _ rfl) (le_ _ _ rfl) (le_ _ _ rfl) (pc' := 478) rfl (fun T7 h7 P7 Q7 => ?_)
    replace P7 := P7.more (k' := 14) (n' := 238) (le_ _ _ rfl) (le_ _ _ rfl)
    obtain ⟨K7, A7, F7_0, F7_1⟩ := Q7
    refine blk C P7 [.astore 14, .iload 4] (by decide +kernel) (pc' := 482) (L' := [.val (.int x0), .val (.int x1), .val (.int x2), .val (.int x3), .val (.int (x0 &&& (7 : Int32))), .val (.ref pf), .val (.ref ur), .val (.ref nsp), .val (.int (0 : Int32)), .val (.ref nm), .val (.int (1 : Int32)), .val (.int (x1 &&& (3 : Int32))), .val (.ref vl), .val (.ref kX), .val (.ref h.size), .val (.int c3)]) (S' := [.int (x0 &&& (7 : Int32))]) rfl ?_
    refine b_ifN C P7 (cd := .eq) (o := 17) (by decide +kernel) (pc' := 485) rfl hu0 ?_
    refine blk C P7 [.iload 8] (by decide +kernel) (pc' := 487) (L' := [.val (.int x0), .val (.int x1), .val (.int x2), .val (.int x3), .val (.int (x0 &&& (7 : Int32))), .val (.ref pf), .val (.ref ur), .val (.ref nsp), .val (.int (0 : Int32)), .val (.ref nm), .val (.int (1 : Int32)), .val (.int (x1 &&& (3 : Int32))), .val (.ref vl), .val (.ref kX), .val (.ref h.size), .val (.int c3)]) (S' := [.int (0 : Int32)]) rfl ?_
    refine b_ifY C P7 (cd := .eq) (o := 12) (by decide +kernel) (pc' := 499) (by decide) (by decide : (0 : Int32) = 0) ?_
    refine blk C P7 [.iconst 0, .istore 15, .aload 14] (by decide +kernel) (pc' := 504) (L' := [.val (.int x0), .val (.int x1), .val (.int x2), .val (.int x3), .val (.int (x0 &&& (7 : Int32))), .val (.ref pf), .val (.ref ur), .val (.ref nsp), .val (.int (0 : Int32)), .val (.ref nm), .val (.int (1 : Int32)), .val (.int (x1 &&& (3 : Int32))), .val (.ref vl), .val (.ref kX), .val (.ref h.size), .val (.int (0 : Int32))]) (S' := [.ref h.size]) rfl ?_
    refine c_virtual C P7 (idx := 55) (y := (⟨"com/example/archive_packager/archivepackager/dc/DcElement$Attribute", "isType", "()Z"⟩ : MethodName)) (K0 := "com/example/archive_packager/archivepackager/dc/DcElement$Attribute") (ybytes := prog_13_method_2_code) (ymax := 1) (yret := (some .boolean)) (yrm := ({ frames := 2, cells := 2, slots := 20, locals := 28 } : Room)) (by decide +kernel) (hw _ (List.mem_of_getElem? (i := 50) rfl)) (hw _ (List.mem_of_getElem? (i := 51) rfl)) (hw _ (List.mem_of_getElem? (i := 53) rfl)) (hw _ (List.mem_of_getElem? (i := 52) rfl)) (hw _ (List.mem_of_getElem? (i := 32) rfl)) (hw _ (List.mem_of_getElem? (i := 54) rfl)) (by decide) A7 [] [] (k_is_r l wd (h.size) nsp ur nm P7.old F7_0 F7_1 (A.ext (exK E6 K7 (Nat.le_refl _))) (G.ext (exK E6 K7 (Nat.le_refl _))) (S.ext (exK E6 K7 (Nat.le_refl _))) (Sn.ext (exK E6 K7 (Nat.le_refl _)))) (le_ _ _ rfl) (W := 0) (le_ _ _ rfl) (by decide +kernel : parseMethodDescriptor "()Z" = some ⟨[], some .boolean⟩) rfl rfl rfl (le_ _ _ rfl) (le_ _ _ rfl) (le_ _ _ rfl) (pc' := 507) rfl (fun T8 h8 v8 P8 Q8 => ?_)
    replace P8 := P8.more (k' := 16) (n' := 258) (le_ _ _ rfl) (le_ _ _ rfl)
    obtain ⟨Q8, E8⟩ := Q8
    rcases Q8 with ⟨rfl, Q8⟩ | ⟨rfl, Q8⟩
    · skip
      exact absurd Q8 (fun z => hu z.1)
    · skip
      refine blk C P8 [.iload 15] (by decide +kernel) (pc' := 509) (L' := [.val (.int x0), .val (.int x1), .val (.int x2), .val (.int x3), .val (.int (x0 &&& (7 : Int32))), .val (.ref pf), .val (.ref ur), .val (.ref nsp), .val (.int (0 : Int32)), .val (.ref nm), .val (.int (1 : Int32)), .val (.int (x1 &&& (3 : Int32))), .val (.ref vl), .val (.ref kX), .val (.ref h.size), .val (.int (0 : Int32))]) (S' := [.int (0 : Int32), .int (0 : Int32)]) rfl ?_
      refine b_cmN C P8 (cd := .ne) (o := 7) (by decide +kernel) (pc' := 512) rfl (by decide : (0 : Int32) = (0 : Int32)) ?_
      refine blk C P8 [.iconst 1] (by decide +kernel) (pc' := 513) (L' := [.val (.int x0), .val (.int x1), .val (.int x2), .val (.int x3), .val (.int (x0 &&& (7 : Int32))), .val (.ref pf), .val (.ref ur), .val (.ref nsp), .val (.int (0 : Int32)), .val (.ref nm), .val (.int (1 : Int32)), .val (.int (x1 &&& (3 : Int32))), .val (.ref vl), .val (.ref kX), .val (.ref h.size), .val (.int (0 : Int32))]) (S' := [.int (1 : Int32)]) rfl ?_
      refine b_goto C P8 (o := 4) (by decide +kernel) (pc' := 517) (by decide) ?_
      exact r_int C P8 (ty := .boolean) (by simp) rfl (by decide +kernel) (le_ _ _ rfl) (le_ _ _ rfl) ⟨_, rfl, rfl⟩
set_option maxRecDepth 65536 in
set_option maxHeartbeats 4000000 in
theorem t419_f1c (l : Launch) {Z : State} {a0 : Array Value} {n0 : Nat} {h : Heap} {z : Int32} {kX uX kD uD : Addr} {dl : List Int32} (wd : Wd Z a0 z kX uX kD uD dl) (x0 x1 x2 x3 : Int32) (pf ur nsp : Addr) (nm : Addr) (c0 c1 c2 c3 : Int32) {us : List Int32} {p : Program} {e : Env} {s : State} {m : MethodId} {args : Array Value} {below : List Frame} {meth : Method} {c : Code} {T : State} (C : Ctx Z a0 consts_1 p s m meth c "com/example/archive_packager/archivepackager/dc/AttributeIsTypePinLaw" "law" code 16 (some .boolean)) (P : Pos Z consts_1 n0 p l e room_1 s m args below meth c T h 11 214) (hu0 : ¬ (x0 &&& (7 : Int32)) = 0) (A : Exa Z h nsp "com/example/archive_packager/archivepackager/xml/Namespace") (G : Fld Z h nsp "com/example/archive_packager/archivepackager/xml/Namespace" "uri" "Ljava/lang/String;" (.ref ur)) (S : Str Z h ur us) (hu : ¬ us = (txt 84)) (Sn : Str Z h nm (txt 88)) :
    Jvm.Own.Run p.tables e below (Jvm.Own.Ends Z consts_1 n0 room_1 below (Ret1 fun v h' => v = .int 1) s) T (fr m 419 [.val (.int x0), .val (.int x1), .val (.int x2), .val (.int x3), .val (.int (x0 &&& (7 : Int32))), .val (.ref pf), .val (.ref ur), .val (.ref nsp), .val (.int (0 : Int32)), .val (.ref nm), .val (.int (1 : Int32)), .val (.int (x1 &&& (3 : Int32))), .val (.int c0), .val (.int c1), .val (.int c2), .val (.int c3)] []) := by
  obtain ⟨hw, hEL, Sz, hz, YX, XX, GX, SX, YD, XD, GD, SDt, hdl⟩ := id wd
  have wS : ∀ a ∈ Bundle.stringAtoms, a.before a0 Z = true := fun d hd => hw d ((by decide +kernel : ∀ d ∈ Bundle.stringAtoms, d ∈ tables_1) d hd)
  refine blk C P [.iload_n 0, .iconst 5, .ishr, .iconst 1, .iand] (by decide +kernel) (pc' := 424) (L' := [.val (.int x0), .val (.int x1), .val (.int x2), .val (.int x3), .val (.int (x0 &&& (7 : Int32))), .val (.ref pf), .val (.ref ur), .val (.ref nsp), .val (.int (0 : Int32)), .val (.ref nm), .val (.int (1 : Int32)), .val (.int (x1 &&& (3 : Int32))), .val (.int c0), .val (.int c1), .val (.int c2), .val (.int c3)]) (S' := [.int ((x0 >>> ((5 : Int32) &&& 31)) &&& (1 : Int32))]) rfl ?_
  refine b_if C P (cd := .eq) (o := 8) (by decide +kernel) (pc' := 432) (by decide) (pn := 427) rfl (fun (q1 : ((x0 >>> ((5 : Int32) &&& 31)) &&& (1 : Int32)) = 0) => ?_) (fun (q1 : ¬ ((x0 >>> ((5 : Int32) &&& 31)) &&& (1 : Int32)) = 0) => ?_)
  · skip
    refine blk C P [.iload_n 3, .bipush 24, .ishr, .sipush 255, .iand, .i2c] (by decide +kernel) (pc' := 441) (L' := [.val (.int x0), .val (.int x1), .val (.int x2), .val (.int x3), .val (.int (x0 &&& (7 : Int32))), .val (.ref pf), .val (.ref ur), .val (.ref nsp), .val (.int (0 : Int32)), .val (.ref nm), .val (.int (1 : Int32)), .val (.int (x1 &&& (3 : Int32))), .val (.int c0), .val (.int c1), .val (.int c2), .val (.int c3)]) (S' := [.int (c16 ((x3 >>> ((24 : Int32) &&& 31)) &&& (255 : Int32)))]) rfl ?_
    refine c_static C P (idx := 9) (y := (⟨"java/lang/String", "valueOf", "(C)Ljava/lang/String;"⟩ : MethodName)) (ybytes := jdk_42_method_139_code) (ymax := 1) (yret := (some (.object "java/lang/String"))) (yrm := ({ frames := 2, cells := 2, slots := 5, locals := 28 } : Room)) (by decide +kernel) (hw _ (List.mem_of_getElem? (i := 0) rfl)) (hw _ (List.mem_of_getElem? (i := 1) rfl)) (hw _ (List.mem_of_getElem? (i := 2) rfl)) (hw _ (List.mem_of_getElem? (i := 3) rfl)) (by decide) [.int (c16 ((x3 >>> ((24 : Int32) &&& 31)) &&& (255 : Int32)))] [] (k_valueOf l hw hEL Sz hz (c16 ((x3 >>> ((24 : Int32) &&& 31)) &&& (255 : Int32))) P.old latv) (le_ _ _ rfl) (W := 0) (le_ _ _ rfl) (by decide +kernel : parseMethodDescriptor "(C)Ljava/lang/String;" = some ⟨[.char], some (.object "java/lang/String")⟩) rfl rfl rfl (le_ _ _ rfl) (le_ _ _ rfl) (le_ _ _ rfl) (pc' := 444) rfl (fun T2 h2 v2 P2 Q2 => ?_)
    replace P2 := P2.more (k' := 13) (n' := 219) (le_ _ _ rfl) (le_ _ _ rfl)
    obtain ⟨b2, rfl, E2, S2⟩ := Q2
    refine blk C P2 [.astore 12] (by decide +kernel) (pc' := 446) (L' := [.val (.int x0), .val (.int x1), .val (.int x2), .val (.int x3), .val (.int (x0 &&& (7 : Int32))), .val (.ref pf), .val (.ref ur), .val (.ref nsp), .val (.int (0 : Int32)), .val (.ref nm), .val (.int (1 : Int32)), .val (.int (x1 &&& (3 : Int32))), .val (.ref b2), .val (.int c1), .val (.int c2), .val (.int c3)]) (S' := []) rfl ?_
    exact t446_f1c l wd x0 x1 x2 x3 pf ur nsp nm b2 c0 c1 c2 c3 C (P2.more (k' := 13) (n' := 234) (le_ _ _ rfl) (le_ _ _ rfl)) hu0 (A.ext E2) (G.ext E2) (S.ext E2) hu (Sn.ext E2)
  · skip
    refine s_ldc C P (idx := 42) (txt 86) (by decide +kernel) (hw _ (List.mem_of_getElem? (i := 86) rfl)) wS (by decide +kernel) (by decide +kernel) (by decide +kernel) (by decide +kernel) (len := 16) (by decide) (by decide) (le_ _ _ rfl) (le_ _ _ rfl) (pc' := 429) rfl (fun T3 h3 a3 P3 E3 S3 => ?_)
    replace P3 := P3.more (k' := 13) (n' := 234) (le_ _ _ rfl) (le_ _ _ rfl)
    refine b_goto C P3 (o := 15) (by decide +kernel) (pc' := 444) (by decide) ?_
    refine blk C P3 [.astore 12] (by decide +kernel) (pc' := 446) (L' := [.val (.int x0), .val (.int x1), .val (.int x2), .val (.int x3), .val (.int (x0 &&& (7 : Int32))), .val (.ref pf), .val (.ref ur), .val (.ref nsp), .val (.int (0 : Int32)), .val (.ref nm), .val (.int (1 : Int32)), .val (.int (x1 &&& (3 : Int32))), .val (.ref a3), .val (.int c1), .val (.int c2), .val (.int c3)]) (S' := []) rfl ?_
    exact t446_f1c l wd x0 x1 x2 x3 pf ur nsp nm a3 c0 c1 c2 c3 C (P3.more (k' := 13) (n' := 234) (le_ _ _ rfl) (le_ _ _ rfl)) hu0 (A.ext E3) (G.ext E3) (S.ext E3) hu (Sn.ext E3)
set_option maxRecDepth 65536 in
set_option maxHeartbeats 4000000 in
theorem t446_f0u (l : Launch) {Z : State} {a0 : Array Value} {n0 : Nat} {h : Heap} {z : Int32} {kX uX kD uD : Addr} {dl : List Int32} (wd : Wd Z a0 z kX uX kD uD dl) (x0 x1 x2 x3 : Int32) (pf ur nsp : Addr) (nm vl : Addr) {us : List Int32} {nms : List Int32} {p : Program} {e : Env} {s : State} {m : MethodId} {args : Array Value} {below : List Frame} {meth : Method} {c : Code} {T : State} (C : Ctx Z a0 consts_1 p s m meth c "com/example/archive_packager/archivepackager/dc/AttributeIsTypePinLaw" "law" code 16 (some .boolean)) (P : Pos Z consts_1 n0 p l e room_1 s m args below meth c T h 13 234) (hu0 : ¬ (x0 &&& (7 : Int32)) = 0) (A : Exa Z h nsp "com/example/archive_packager/archivepackager/xml/Namespace") (G : Fld Z h nsp "com/example/archive_packager/archivepackager/xml/Namespace" "uri" "Ljava/lang/String;" (.ref ur)) (S : Str Z h ur us) (hu : ¬ us = (txt 84)) (Sn : Str Z h nm nms) (hn : ¬ nms = (txt 88)) :
    Jvm.Own.Run p.tables e below (Jvm.Own.Ends Z consts_1 n0 room_1 below (Ret1 fun v h' => v = .int 1) s) T (fr m 446 [.val (.int x0), .val (.int x1), .val (.int x2), .val (.int x3), .val (.int (x0 &&& (7 : Int32))), .val (.ref pf), .val (.ref ur), .val (.ref nsp), .val (.int (0 : Int32)), .val (.ref nm), .val (.int (0 : Int32)), .val (.int (x1 &&& (3 : Int32))), .val (.ref vl), .unset, .unset, .unset] []) := by
  obtain ⟨hw, hEL, Sz, hz, YX, XX, GX, SX, YD, XD, GD, SDt, hdl⟩ := id wd
  refine blk C P [.iload_n 0, .iconst 4, .ishr, .iconst 1, .iand] (by decide +kernel) (pc' := 451) (L' := [.val (.int x0), .val (.int x1), .val (.int x2), .val (.int x3), .val (.int (x0 &&& (7 : Int32))), .val (.ref pf), .val (.ref ur), .val (.ref nsp), .val (.int (0 : Int32)), .val (.ref nm), .val (.int (0 : Int32)), .val (.int (x1 &&& (3 : Int32))), .val (.ref vl), .unset, .unset, .unset]) (S' := [.int ((x0 >>> ((4 : Int32) &&& 31)) &&& (1 : Int32))]) rfl ?_
  refine b_if C P (cd := .eq) (o := 9) (by decide +kernel) (pc' := 460) (by decide) (pn := 454) rfl (fun (q1 : ((x0 >>> ((4 : Int32) &&& 31)) &&& (1 : Int32)) = 0) => ?_) (fun (q1 : ¬ ((x0 >>> ((4 : Int32) &&& 31)) &&& (1 : Int32)) = 0) => ?_)
  · skip
    refine blk C P [.aconst_null, .astore 13] (by decide +kernel) (pc' := 463) (L' := [.val (.int x0), .val (.int x1), .val (.int x2), .val (.int x3), .val (.int (x0 &&& (7 : Int32))), .val (.ref pf), .val (.ref ur), .val (.ref nsp), .val (.int (0 : Int32)), .val (.ref nm), .val (.int (0 : Int32)), .val (.int (x1 &&& (3 : Int32))), .val (.ref vl), .val (.null), .unset, .unset]) (S' := []) rfl ?_
    refine s_new C P (idx := 50) (by decide +kernel) (hw _ (List.mem_of_getElem? (i := 30) rfl)) (hw _ (List.mem_of_getElem? (i := 31) rfl)) (hw _ (List.mem_of_getElem? (i := 32) rfl)) (le_ _ _ rfl) (le_ _ _ rfl) (pc' := 466) rfl (fun T2 h2 P2 E2 B2 => ?_)
    replace P2 := P2.more (k' := 14) (n' := 238) (le_ _ _ rfl) (le_ _ _ rfl)
    refine blk C P2 [.dup, .aload 7, .aload 9, .aload 12, .aload 13] (by decide +kernel) (pc' := 475) (L' := [.val (.int x0), .val (.int x1), .val (.int x2), .val (.int x3), .val (.int (x0 &&& (7 : Int32))), .val (.ref pf), .val (.ref ur), .val (.ref nsp), .val (.int (0 : Int32)), .val (.ref nm), .val (.int (0 : Int32)), .val (.int (x1 &&& (3 : Int32))), .val (.ref vl), .val (.null), .unset, .unset]) (S' := [.null, .ref vl, .ref nm, .ref nsp, .ref h.size, .ref h.size]) rfl ?_
    refine c_special C P2 (idx := 52) (y := (⟨"com/example/archive_packager/archivepackager/dc/DcElement$Attribute", "<init>", "(Lcom/example/archive_packager/archivepackager/xml/Namespace;Ljava/lang/String;Ljava/lang/String;Lcom/example/archive_packager/archivepackager/xml/Namespace;)V"⟩ : MethodName)) (ybytes := prog_13_method_1_code) (ymax := 5) (yrm := ({ frames := 2, cells := 0, slots := 0, locals := 24 } : Room)) rfl (by decide +kernel) (hw _ (List.mem_of_getElem? (i := 33) rfl)) (hw _ (List.mem_of_getElem? (i := 34) rfl)) (hw _ (List.mem_of_getElem? (i := 32) rfl)) (hw _ (List.mem_of_getElem? (i := 35) rfl)) (by decide) [.ref nsp, .ref nm, .ref vl, .null] [.ref h.size] (k_att_rn l wd (h.size) nsp nm vl P2.old B2) (le_ _ _ rfl) (W := 1) (le_ _ _ rfl) (by decide +kernel : parseMethodDescriptor "(Lcom/example/archive_packager/archivepackager/xml/Namespace;Ljava/lang/String;Ljava/lang/String;Lcom/example/archive_packager/archivepackager/xml/Namespace;)V" = some ⟨[(.object "com/example/archive_packager/archivepackager/xml/Namespace"), (.object "java/lang/String"), (.object "java/lang/String"), (.object "com/example/archive_packager/archivepackager/xml/Namespace")], none⟩) rfl rfl rfl (le_ _ _ rfl) (le_ _ _ rfl) (le_ _ _ rfl) (pc' := 478) rfl (fun T3 h3 P3 Q3 => ?_)
    replace P3 := P3.more (k' := 14) (n' := 238) (le_ _ _ rfl) (le_ _ _ rfl)
    obtain ⟨K3, A3, F3_0, F3_1⟩ := Q3
    refine blk C P3 [.astore 14, .iload 4] (by decide +kernel) (pc' := 482) (L' := [.val (.int x0), .val (.int x1), .val (.int x2), .val (.int x3), .val (.int (x0 &&& (7 : Int32))), .val (.ref pf), .val (.ref ur), .val (.ref nsp), .val (.int (0 : Int32)), .val (.ref nm), .val (.int (0 : Int32)), .val (.int (x1 &&& (3 : Int32))), .val (.ref vl), .val (.null), .val (.ref h.size), .unset]) (S' := [.int (x0 &&& (7 : Int32))]) rfl ?_
    refine b_ifN C P3 (cd := .eq) (o := 17) (by decide +kernel) (pc' := 485) rfl hu0 ?_
    refine blk C P3 [.iload 8] (by decide +kernel) (pc' := 487) (L' := [.val (.int x0), .val (.int x1), .val (.int x2), .val (.int x3), .val (.int (x0 &&& (7 : Int32))), .val (.ref pf), .val (.ref ur), .val (.ref nsp), .val (.int (0 : Int32)), .val (.ref nm), .val (.int (0 : Int32)), .val (.int (x1 &&& (3 : Int32))), .val (.ref vl), .val (.null), .val (.ref h.size), .unset]) (S' := [.int (0 : Int32)]) rfl ?_
    refine b_ifY C P3 (cd := .eq) (o := 12) (by decide +kernel) (pc' := 499) (by decide) (by decide : (0 : Int32) = 0) ?_
    refine blk C P3 [.iconst 0, .istore 15, .aload 14] (by decide +kernel) (pc' := 504) (L' := [.val (.int x0), .val (.int x1), .val (.int x2), .val (.int x3), .val (.int (x0 &&& (7 : Int32))), .val (.ref pf), .val (.ref ur), .val (.ref nsp), .val (.int (0 : Int32)), .val (.ref nm), .val (.int (0 : Int32)), .val (.int (x1 &&& (3 : Int32))), .val (.ref vl), .val (.null), .val (.ref h.size), .val (.int (0 : Int32))]) (S' := [.ref h.size]) rfl ?_
    refine c_virtual C P3 (idx := 55) (y := (⟨"com/example/archive_packager/archivepackager/dc/DcElement$Attribute", "isType", "()Z"⟩ : MethodName)) (K0 := "com/example/archive_packager/archivepackager/dc/DcElement$Attribute") (ybytes := prog_13_method_2_code) (ymax := 1) (yret := (some .boolean)) (yrm := ({ frames := 2, cells := 2, slots := 20, locals := 28 } : Room)) (by decide +kernel) (hw _ (List.mem_of_getElem? (i := 50) rfl)) (hw _ (List.mem_of_getElem? (i := 51) rfl)) (hw _ (List.mem_of_getElem? (i := 53) rfl)) (hw _ (List.mem_of_getElem? (i := 52) rfl)) (hw _ (List.mem_of_getElem? (i := 32) rfl)) (hw _ (List.mem_of_getElem? (i := 54) rfl)) (by decide) A3 [] [] (k_is_r l wd (h.size) nsp ur nm P3.old F3_0 F3_1 (A.ext (exK E2 K3 (Nat.le_refl _))) (G.ext (exK E2 K3 (Nat.le_refl _))) (S.ext (exK E2 K3 (Nat.le_refl _))) (Sn.ext (exK E2 K3 (Nat.le_refl _)))) (le_ _ _ rfl) (W := 0) (le_ _ _ rfl) (by decide +kernel : parseMethodDescriptor "()Z" = some ⟨[], some .boolean⟩) rfl rfl rfl (le_ _ _ rfl) (le_ _ _ rfl) (le_ _ _ rfl) (pc' := 507) rfl (fun T4 h4 v4 P4 Q4 => ?_)
    replace P4 := P4.more (k' := 16) (n' := 258) (le_ _ _ rfl) (le_ _ _ rfl)
    obtain ⟨Q4, E4⟩ := Q4
    rcases Q4 with ⟨rfl, Q4⟩ | ⟨rfl, Q4⟩
    · skip
      exact absurd Q4 (fun z => hu z.1)
    · skip
      refine blk C P4 [.iload 15] (by decide +kernel) (pc' := 509) (L' := [.val (.int x0), .val (.int x1), .val (.int x2), .val (.int x3), .val (.int (x0 &&& (7 : Int32))), .val (.ref pf), .val (.ref ur), .val (.ref nsp), .val (.int (0 : Int32)), .val (.ref nm), .val (.int (0 : Int32)), .val (.int (x1 &&& (3 : Int32))), .val (.ref vl), .val (.null), .val (.ref h.size), .val (.int (0 : Int32))]) (S' := [.int (0 : Int32), .int (0 : Int32)]) rfl ?_
      refine b_cmN C P4 (cd := .ne) (o := 7) (by decide +kernel) (pc' := 512) rfl (by decide : (0 : Int32) = (0 : Int32)) ?_
      refine blk C P4 [.iconst 1] (by decide +kernel) (pc' := 513) (L' := [.val (.int x0), .val (.int x1), .val (.int x2), .val (.int x3), .val (.int (x0 &&& (7 : Int32))), .val (.ref pf), .val (.ref ur), .val (.ref nsp), .val (.int (0 : Int32)), .val (.ref nm), .val (.int (0 : Int32)), .val (.int (x1 &&& (3 : Int32))), .val (.ref vl), .val (.null), .val (.ref h.size), .val (.int (0 : Int32))]) (S' := [.int (1 : Int32)]) rfl ?_
      refine b_goto C P4 (o := 4) (by decide +kernel) (pc' := 517) (by decide) ?_
      exact r_int C P4 (ty := .boolean) (by simp) rfl (by decide +kernel) (le_ _ _ rfl) (le_ _ _ rfl) ⟨_, rfl, rfl⟩
  · skip
    refine s_gets C P (idx := 15) (by decide +kernel) (hw _ (List.mem_of_getElem? (i := 87) rfl)) YX (pc' := 457) rfl (fun T5 P5 => ?_)
    refine b_goto C P5 (o := 4) (by decide +kernel) (pc' := 461) (by decide) ?_
    refine blk C P5 [.astore 13] (by decide +kernel) (pc' := 463) (L' := [.val (.int x0), .val (.int x1), .val (.int x2), .val (.int x3), .val (.int (x0 &&& (7 : Int32))), .val (.ref pf), .val (.ref ur), .val (.ref nsp), .val (.int (0 : Int32)), .val (.ref nm), .val (.int (0 : Int32)), .val (.int (x1 &&& (3 : Int32))), .val (.ref vl), .val (.ref kX), .unset, .unset]) (S' := []) rfl ?_
    refine s_new C P5 (idx := 50) (by decide +kernel) (hw _ (List.mem_of_getElem? (i := 30) rfl)) (hw _ (List.mem_of_getElem? (i := 31) rfl)) (hw _ (List.mem_of_getElem? (i := 32) rfl)) (le_ _ _ rfl) (le_ _ _ rfl) (pc' := 466) rfl (fun T6 h6 P6 E6 B6 => ?_)
    replace P6 := P6.more (k' := 14) (n' := 238) (le_ _ _ rfl) (le_ _ _ rfl)
    refine blk C P6 [.dup, .aload 7, .aload 9, .aload 12, .aload 13] (by decide +kernel) (pc' := 475) (L' := [.val (.int x0), .val (.int x1), .val (.int x2), .val (.int x3), .val (.int (x0 &&& (7 : Int32))), .val (.ref pf), .val (.ref ur), .val (.ref nsp), .val (.int (0 : Int32)), .val (.ref nm), .val (.int (0 : Int32)), .val (.int (x1 &&& (3 : Int32))), .val (.ref vl), .val (.ref kX), .unset, .unset]) (S' := [.ref kX, .ref vl, .ref nm, .ref nsp, .ref h.size, .ref h.size]) rfl ?_
    refine c_special C P6 (idx := 52) (y := (⟨"com/example/archive_packager/archivepackager/dc/DcElement$Attribute", "<init>", "(Lcom/example/archive_packager/archivepackager/xml/Namespace;Ljava/lang/String;Ljava/lang/String;Lcom/example/archive_packager/archivepackager/xml/Namespace;)V"⟩ : MethodName)) (ybytes := prog_13_method_1_code) (ymax := 5) (yrm := ({ frames := 2, cells := 0, slots := 0, locals := 24 } : Room)) rfl (by decide +kernel) (hw _ (List.mem_of_getElem? (i := 33) rfl)) (hw _ (List.mem_of_getElem? (i := 34) rfl)) (hw _ (List.mem_of_getElem? (i := 32) rfl)) (hw _ (List.mem_of_getElem? (i := 35) rfl)) (by decide) [.ref nsp, .ref nm, .ref vl, .ref kX] [.ref h.size] (k_att_rr l wd (h.size) nsp nm vl kX P6.old B6) (le_ _ _ rfl) (W := 1) (le_ _ _ rfl) (by decide +kernel : parseMethodDescriptor "(Lcom/example/archive_packager/archivepackager/xml/Namespace;Ljava/lang/String;Ljava/lang/String;Lcom/example/archive_packager/archivepackager/xml/Namespace;)V" = some ⟨[(.object "com/example/archive_packager/archivepackager/xml/Namespace"), (.object "java/lang/String"), (.object "java/lang/String"), (.object "com/example/archive_packager/archivepackager/xml/Namespace")], none⟩) rfl rfl rfl (le_ _ _ rfl) (le_ _ _ rfl) (le_ _ _ rfl) (pc' := 478) rfl (fun T7 h7 P7 Q7 => ?_)
    replace P7 := P7.more (k' := 14) (n' := 238) (le_ _ _ rfl) (le_ _ _ rfl)
    obtain ⟨K7, A7, F7_0, F7_1⟩ := Q7
    refine blk C P7 [.astore 14, .iload 4] (by decide +kernel) (pc' := 482) (L' := [.val (.int x0), .val (.int x1), .val (.int x2), .val (.int x3), .val (.int (x0 &&& (7 : Int32))), .val (.ref pf), .val (.ref ur), .val (.ref nsp), .val (.int (0 : Int32)), .val (.ref nm), .val (.int (0 : Int32)), .val (.int (x1 &&& (3 : Int32))), .val (.ref vl), .val (.ref kX), .val (.ref h.size), .unset]) (S' := [.int (x0 &&& (7 : Int32))]) rfl ?_
    refine b_ifN C P7 (cd := .eq) (o := 17) (by decide +kernel) (pc' := 485) rfl hu0 ?_
    refine blk C P7 [.iload 8] (by decide +kernel) (pc' := 487) (L' := [.val (.int x0), .val (.int x1), .val (.int x2), .val (.int x3), .val (.int (x0 &&& (7 : Int32))), .val (.ref pf), .val (.ref ur), .val (.ref nsp), .val (.int (0 : Int32)), .val (.ref nm), .val (.int (0 : Int32)), .val (.int (x1 &&& (3 : Int32))), .val (.ref vl), .val (.ref kX), .val (.ref h.size), .unset]) (S' := [.int (0 : Int32)]) rfl ?_
    refine b_ifY C P7 (cd := .eq) (o := 12) (by decide +kernel) (pc' := 499) (by decide) (by decide : (0 : Int32) = 0) ?_
    refine blk C P7 [.iconst 0, .istore 15, .aload 14] (by decide +kernel) (pc' := 504) (L' := [.val (.int x0), .val (.int x1), .val (.int x2), .val (.int x3), .val (.int (x0 &&& (7 : Int32))), .val (.ref pf), .val (.ref ur), .val (.ref nsp), .val (.int (0 : Int32)), .val (.ref nm), .val (.int (0 : Int32)), .val (.int (x1 &&& (3 : Int32))), .val (.ref vl), .val (.ref kX), .val (.ref h.size), .val (.int (0 : Int32))]) (S' := [.ref h.size]) rfl ?_
    refine c_virtual C P7 (idx := 55) (y := (⟨"com/example/archive_packager/archivepackager/dc/DcElement$Attribute", "isType", "()Z"⟩ : MethodName)) (K0 := "com/example/archive_packager/archivepackager/dc/DcElement$Attribute") (ybytes := prog_13_method_2_code) (ymax := 1) (yret := (some .boolean)) (yrm := ({ frames := 2, cells := 2, slots := 20, locals := 28 } : Room)) (by decide +kernel) (hw _ (List.mem_of_getElem? (i := 50) rfl)) (hw _ (List.mem_of_getElem? (i := 51) rfl)) (hw _ (List.mem_of_getElem? (i := 53) rfl)) (hw _ (List.mem_of_getElem? (i := 52) rfl)) (hw _ (List.mem_of_getElem? (i := 32) rfl)) (hw _ (List.mem_of_getElem? (i := 54) rfl)) (by decide) A7 [] [] (k_is_r l wd (h.size) nsp ur nm P7.old F7_0 F7_1 (A.ext (exK E6 K7 (Nat.le_refl _))) (G.ext (exK E6 K7 (Nat.le_refl _))) (S.ext (exK E6 K7 (Nat.le_refl _))) (Sn.ext (exK E6 K7 (Nat.le_refl _)))) (le_ _ _ rfl) (W := 0) (le_ _ _ rfl) (by decide +kernel : parseMethodDescriptor "()Z" = some ⟨[], some .boolean⟩) rfl rfl rfl (le_ _ _ rfl) (le_ _ _ rfl) (le_ _ _ rfl) (pc' := 507) rfl (fun T8 h8 v8 P8 Q8 => ?_)
    replace P8 := P8.more (k' := 16) (n' := 258) (le_ _ _ rfl) (le_ _ _ rfl)
    obtain ⟨Q8, E8⟩ := Q8
    rcases Q8 with ⟨rfl, Q8⟩ | ⟨rfl, Q8⟩
    · skip
      exact absurd Q8 (fun z => hu z.1)
    · skip
      refine blk C P8 [.iload 15] (by decide +kernel) (pc' := 509) (L' := [.val (.int x0), .val (.int x1), .val (.int x2), .val (.int x3), .val (.int (x0 &&& (7 : Int32))), .val (.ref pf), .val (.ref ur), .val (.ref nsp), .val (.int (0 : Int32)), .val (.ref nm), .val (.int (0 : Int32)), .val (.int (x1 &&& (3 : Int32))), .val (.ref vl), .val (.ref kX), .val (.ref h.size), .val (.int (0 : Int32))]) (S' := [.int (0 : Int32), .int (0 : Int32)]) rfl ?_
      refine b_cmN C P8 (cd := .ne) (o := 7) (by decide +kernel) (pc' := 512) rfl (by decide : (0 : Int32) = (0 : Int32)) ?_
      refine blk C P8 [.iconst 1] (by decide +kernel) (pc' := 513) (L' := [.val (.int x0), .val (.int x1), .val (.int x2), .val (.int x3), .val (.int (x0 &&& (7 : Int32))), .val (.ref pf), .val (.ref ur), .val (.ref nsp), .val (.int (0 : Int32)), .val (.ref nm), .val (.int (0 : Int32)), .val (.int (x1 &&& (3 : Int32))), .val (.ref vl), .val (.ref kX), .val (.ref h.size), .val (.int (0 : Int32))]) (S' := [.int (1 : Int32)]) rfl ?_
      refine b_goto C P8 (o := 4) (by decide +kernel) (pc' := 517) (by decide) ?_
      exact r_int C P8 (ty := .boolean) (by simp) rfl (by decide +kernel) (le_ _ _ rfl) (le_ _ _ rfl) ⟨_, rfl, rfl⟩
set_option maxRecDepth 65536 in
set_option maxHeartbeats 4000000 in
theorem t419_f0u (l : Launch) {Z : State} {a0 : Array Value} {n0 : Nat} {h : Heap} {z : Int32} {kX uX kD uD : Addr} {dl : List Int32} (wd : Wd Z a0 z kX uX kD uD dl) (x0 x1 x2 x3 : Int32) (pf ur nsp : Addr) (nm : Addr) {us : List Int32} {nms : List Int32} {p : Program} {e : Env} {s : State} {m : MethodId} {args : Array Value} {below : List Frame} {meth : Method} {c : Code} {T : State} (C : Ctx Z a0 consts_1 p s m meth c "com/example/archive_packager/archivepackager/dc/AttributeIsTypePinLaw" "law" code 16 (some .boolean)) (P : Pos Z consts_1 n0 p l e room_1 s m args below meth c T h 11 214) (hu0 : ¬ (x0 &&& (7 : Int32)) = 0) (A : Exa Z h nsp "com/example/archive_packager/archivepackager/xml/Namespace") (G : Fld Z h nsp "com/example/archive_packager/archivepackager/xml/Namespace" "uri" "Ljava/lang/String;" (.ref ur)) (S : Str Z h ur us) (hu : ¬ us = (txt 84)) (Sn : Str Z h nm nms) (hn : ¬ nms = (txt 88)) :
    Jvm.Own.Run p.tables e below (Jvm.Own.Ends Z consts_1 n0 room_1 below (Ret1 fun v h' => v = .int 1) s) T (fr m 419 [.val (.int x0), .val (.int x1), .val (.int x2), .val (.int x3), .val (.int (x0 &&& (7 : Int32))), .val (.ref pf), .val (.ref ur), .val (.ref nsp), .val (.int (0 : Int32)), .val (.ref nm), .val (.int (0 : Int32)), .val (.int (x1 &&& (3 : Int32))), .unset, .unset, .unset, .unset] []) := by
  obtain ⟨hw, hEL, Sz, hz, YX, XX, GX, SX, YD, XD, GD, SDt, hdl⟩ := id wd
  have wS : ∀ a ∈ Bundle.stringAtoms, a.before a0 Z = true := fun d hd => hw d ((by decide +kernel : ∀ d ∈ Bundle.stringAtoms, d ∈ tables_1) d hd)
  refine blk C P [.iload_n 0, .iconst 5, .ishr, .iconst 1, .iand] (by decide +kernel) (pc' := 424) (L' := [.val (.int x0), .val (.int x1), .val (.int x2), .val (.int x3), .val (.int (x0 &&& (7 : Int32))), .val (.ref pf), .val (.ref ur), .val (.ref nsp), .val (.int (0 : Int32)), .val (.ref nm), .val (.int (0 : Int32)), .val (.int (x1 &&& (3 : Int32))), .unset, .unset, .unset, .unset]) (S' := [.int ((x0 >>> ((5 : Int32) &&& 31)) &&& (1 : Int32))]) rfl ?_
  refine b_if C P (cd := .eq) (o := 8) (by decide +kernel) (pc' := 432) (by decide) (pn := 427) rfl (fun (q1 : ((x0 >>> ((5 : Int32) &&& 31)) &&& (1 : Int32)) = 0) => ?_) (fun (q1 : ¬ ((x0 >>> ((5 : Int32) &&& 31)) &&& (1 : Int32)) = 0) => ?_)
  · skip
    refine blk C P [.iload_n 3, .bipush 24, .ishr, .sipush 255, .iand, .i2c] (by decide +kernel) (pc' := 441) (L' := [.val (.int x0), .val (.int x1), .val (.int x2), .val (.int x3), .val (.int (x0 &&& (7 : Int32))), .val (.ref pf), .val (.ref ur), .val (.ref nsp), .val (.int (0 : Int32)), .val (.ref nm), .val (.int (0 : Int32)), .val (.int (x1 &&& (3 : Int32))), .unset, .unset, .unset, .unset]) (S' := [.int (c16 ((x3 >>> ((24 : Int32) &&& 31)) &&& (255 : Int32)))]) rfl ?_
    refine c_static C P (idx := 9) (y := (⟨"java/lang/String", "valueOf", "(C)Ljava/lang/String;"⟩ : MethodName)) (ybytes := jdk_42_method_139_code) (ymax := 1) (yret := (some (.object "java/lang/String"))) (yrm := ({ frames := 2, cells := 2, slots := 5, locals := 28 } : Room)) (by decide +kernel) (hw _ (List.mem_of_getElem? (i := 0) rfl)) (hw _ (List.mem_of_getElem? (i := 1) rfl)) (hw _ (List.mem_of_getElem? (i := 2) rfl)) (hw _ (List.mem_of_getElem? (i := 3) rfl)) (by decide) [.int (c16 ((x3 >>> ((24 : Int32) &&& 31)) &&& (255 : Int32)))] [] (k_valueOf l hw hEL Sz hz (c16 ((x3 >>> ((24 : Int32) &&& 31)) &&& (255 : Int32))) P.old latv) (le_ _ _ rfl) (W := 0) (le_ _ _ rfl) (by decide +kernel : parseMethodDescriptor "(C)Ljava/lang/String;" = some ⟨[.char], some (.object "java/lang/String")⟩) rfl rfl rfl (le_ _ _ rfl) (le_ _ _ rfl) (le_ _ _ rfl) (pc' := 444) rfl (fun T2 h2 v2 P2 Q2 => ?_)
    replace P2 := P2.more (k' := 13) (n' := 219) (le_ _ _ rfl) (le_ _ _ rfl)
    obtain ⟨b2, rfl, E2, S2⟩ := Q2
    refine blk C P2 [.astore 12] (by decide +kernel) (pc' := 446) (L' := [.val (.int x0), .val (.int x1), .val (.int x2), .val (.int x3), .val (.int (x0 &&& (7 : Int32))), .val (.ref pf), .val (.ref ur), .val (.ref nsp), .val (.int (0 : Int32)), .val (.ref nm), .val (.int (0 : Int32)), .val (.int (x1 &&& (3 : Int32))), .val (.ref b2), .unset, .unset, .unset]) (S' := []) rfl ?_
    exact t446_f0u l wd x0 x1 x2 x3 pf ur nsp nm b2 C (P2.more (k' := 13) (n' := 234) (le_ _ _ rfl) (le_ _ _ rfl)) hu0 (A.ext E2) (G.ext E2) (S.ext E2) hu (Sn.ext E2) hn
  · skip
    refine s_ldc C P (idx := 42) (txt 86) (by decide +kernel) (hw _ (List.mem_of_getElem? (i := 86) rfl)) wS (by decide +kernel) (by decide +kernel) (by decide +kernel) (by decide +kernel) (len := 16) (by decide) (by decide) (le_ _ _ rfl) (le_ _ _ rfl) (pc' := 429) rfl (fun T3 h3 a3 P3 E3 S3 => ?_)
    replace P3 := P3.more (k' := 13) (n' := 234) (le_ _ _ rfl) (le_ _ _ rfl)
    refine b_goto C P3 (o := 15) (by decide +kernel) (pc' := 444) (by decide) ?_
    refine blk C P3 [.astore 12] (by decide +kernel) (pc' := 446) (L' := [.val (.int x0), .val (.int x1), .val (.int x2), .val (.int x3), .val (.int (x0 &&& (7 : Int32))), .val (.ref pf), .val (.ref ur), .val (.ref nsp), .val (.int (0 : Int32)), .val (.ref nm), .val (.int (0 : Int32)), .val (.int (x1 &&& (3 : Int32))), .val (.ref a3), .unset, .unset, .unset]) (S' := []) rfl ?_
    exact t446_f0u l wd x0 x1 x2 x3 pf ur nsp nm a3 C (P3.more (k' := 13) (n' := 234) (le_ _ _ rfl) (le_ _ _ rfl)) hu0 (A.ext E3) (G.ext E3) (S.ext E3) hu (Sn.ext E3) hn
set_option maxRecDepth 65536 in
set_option maxHeartbeats 4000000 in
theorem t446_f0c (l : Launch) {Z : State} {a0 : Array Value} {n0 : Nat} {h : Heap} {z : Int32} {kX uX kD uD : Addr} {dl : List Int32} (wd : Wd Z a0 z kX uX kD uD dl) (x0 x1 x2 x3 : Int32) (pf ur nsp : Addr) (nm vl : Addr) (c0 c1 c2 c3 : Int32) {us : List Int32} {nms : List Int32} {p : Program} {e : Env} {s : State} {m : MethodId} {args : Array Value} {below : List Frame} {meth : Method} {c : Code} {T : State} (C : Ctx Z a0 consts_1 p s m meth c "com/example/archive_packager/archivepackager/dc/AttributeIsTypePinLaw" "law" code 16 (some .boolean)) (P : Pos Z consts_1 n0 p l e room_1 s m args below meth c T h 13 234) (hu0 : ¬ (x0 &&& (7 : Int32)) = 0) (A : Exa Z h nsp "com/example/archive_packager/archivepackager/xml/Namespace") (G : Fld Z h nsp "com/example/archive_packager/archivepackager/xml/Namespace" "uri" "Ljava/lang/String;" (.ref ur)) (S : Str Z h ur us) (hu : ¬ us = (txt 84)) (Sn : Str Z h nm nms) (hn : ¬ nms = (txt 88)) :
    Jvm.Own.Run p.tables e below (Jvm.Own.Ends Z consts_1 n0 room_1 below (Ret1 fun v h' => v = .int 1) s) T (fr m 446 [.val (.int x0), .val (.int x1), .val (.int x2), .val (.int x3), .val (.int (x0 &&& (7 : Int32))), .val (.ref pf), .val (.ref ur), .val (.ref nsp), .val (.int (0 : Int32)), .val (.ref nm), .val (.int (0 : Int32)), .val (.int (x1 &&& (3 : Int32))), .val (.ref vl), .val (.int c1), .val (.int c2), .val (.int c3)] []) := by
  obtain ⟨hw, hEL, Sz, hz, YX, XX, GX, SX, YD, XD, GD, SDt, hdl⟩ := id wd
  refine blk C P [.iload_n 0, .iconst 4, .ishr, .iconst 1, .iand] (by decide +kernel) (pc' := 451) (L' := [.val (.int x0), .val (.int x1), .val (.int x2), .val (.int x3), .val (.int (x0 &&& (7 : Int32))), .val (.ref pf), .val (.ref ur), .val (.ref nsp), .val (.int (0 : Int32)), .val (.ref nm), .val (.int (0 : Int32)), .val (.int (x1 &&& (3 : Int32))), .val (.ref vl), .val (.int c1), .val (.int c2), .val (.int c3)]) (S' := [.int ((x0 >>> ((4 : Int32) &&& 31)) &&& (1 : Int32))]) rfl ?_
  refine b_if C P (cd := .eq) (o := 9) (by decide +kernel) (pc' := 460) (by decide) (pn := 454) rfl (fun (q1 : ((x0 >>> ((4 : Int32) &&& 31)) &&& (1 : Int32)) = 0) => ?_) (fun (q1 : ¬ ((x0 >>> ((4 : Int32) &&& 31)) &&& (1 : Int32)) = 0) => ?_)
  · skip
    refine blk C P [.aconst_null, .astore 13] (by decide +kernel) (pc' := 463) (L' := [.val (.int x0), .val (.int x1), .val (.int x2), .val (.int x3), .val (.int (x0 &&& (7 : Int32))), .val (.ref pf), .val (.ref ur), .val (.ref nsp), .val (.int (0 : Int32)), .val (.ref nm), .val (.int (0 : Int32)), .val (.int (x1 &&& (3 : Int32))), .val (.ref vl), .val (.null), .val (.int c2), .val (.int c3)]) (S' := []) rfl ?_
    refine s_new C P (idx := 50) (by decide +kernel) (hw _ (List.mem_of_getElem? (i := 30) rfl)) (hw _ (List.mem_of_getElem? (i := 31) rfl)) (hw _ (List.mem_of_getElem? (i := 32) rfl)) (le_ _ _ rfl) (le_ _ _ rfl) (pc' := 466) rfl (fun T2 h2 P2 E2 B2 => ?_)
    replace P2 := P2.more (k' := 14) (n' := 238) (le_ _ _ rfl) (le_ _ _ rfl)
    refine blk C P2 [.dup, .aload 7, .aload 9, .aload 12, .aload 13] (by decide +kernel) (pc' := 475) (L' := [.val (.int x0), .val (.int x1), .val (.int x2), .val (.int x3), .val (.int (x0 &&& (7 : Int32))), .val (.ref pf), .val (.ref ur), .val (.ref nsp), .val (.int (0 : Int32)), .val (.ref nm), .val (.int (0 : Int32)), .val (.int (x1 &&& (3 : Int32))), .val (.ref vl), .val (.null), .val (.int c2), .val (.int c3)]) (S' := [.null, .ref vl, .ref nm, .ref nsp, .ref h.size, .ref h.size]) rfl ?_
    refine c_special C P2 (idx := 52) (y := (⟨"com/example/archive_packager/archivepackager/dc/DcElement$Attribute", "<init>", "(Lcom/example/archive_packager/archivepackager/xml/Namespace;Ljava/lang/String;Ljava/lang/String;Lcom/example/archive_packager/archivepackager/xml/Namespace;)V"⟩ : MethodName)) (ybytes := prog_13_method_1_code) (ymax := 5) (yrm := ({ frames := 2, cells := 0, slots := 0, locals := 24 } : Room)) rfl (by decide +kernel) (hw _ (List.mem_of_getElem? (i := 33) rfl)) (hw _ (List.mem_of_getElem? (i := 34) rfl)) (hw _ (List.mem_of_getElem? (i := 32) rfl)) (hw _ (List.mem_of_getElem? (i := 35) rfl)) (by decide) [.ref nsp, .ref nm, .ref vl, .null] [.ref h.size] (k_att_rn l wd (h.size) nsp nm vl P2.old B2) (le_ _ _ rfl) (W := 1) (le_ _ _ rfl) (by decide +kernel : parseMethodDescriptor "(Lcom/example/archive_packager/archivepackager/xml/Namespace;Ljava/lang/String;Ljava/lang/String;Lcom/example/archive_packager/archivepackager/xml/Namespace;)V" = some ⟨[(.object "com/example/archive_packager/archivepackager/xml/Namespace"), (.object "java/lang/String"), (.object "java/lang/String"), (.object "com/example/archive_packager/archivepackager/xml/Namespace")], none⟩) rfl rfl rfl (le_ _ _ rfl) (le_ _ _ rfl) (le_ _ _ rfl) (pc' := 478) rfl (fun T3 h3 P3 Q3 => ?_)
    replace P3 := P3.more (k' := 14) (n' := 238) (le_ _ _ rfl) (le_ _ _ rfl)
    obtain ⟨K3, A3, F3_0, F3_1⟩ := Q3
    refine blk C P3 [.astore 14, .iload 4] (by decide +kernel) (pc' := 482) (L' := [.val (.int x0), .val (.int x1), .val (.int x2), .val (.int x3), .val (.int (x0 &&& (7 : Int32))), .val (.ref pf), .val (.ref ur), .val (.ref nsp), .val (.int (0 : Int32)), .val (.ref nm), .val (.int (0 : Int32)), .val (.int (x1 &&& (3 : Int32))), .val (.ref vl), .val (.null), .val (.ref h.size), .val (.int c3)]) (S' := [.int (x0 &&& (7 : Int32))]) rfl ?_
    refine b_ifN C P3 (cd := .eq) (o := 17) (by decide +kernel) (pc' := 485) rfl hu0 ?_
    refine blk C P3 [.iload 8] (by decide +kernel) (pc' := 487) (L' := [.val (.int x0), .val (.int x1), .val (.int x2), .val (.int x3), .val (.int (x0 &&& (7 : Int32))), .val (.ref pf), .val (.ref ur), .val (.ref nsp), .val (.int (0 : Int32)), .val (.ref nm), .val (.int (0 : Int32)), .val (.int (x1 &&& (3 : Int32))), .val (.ref vl), .val (.null), .val (.ref h.size), .val (.int c3)]) (S' := [.int (0 : Int32)]) rfl ?_
    refine b_ifY C P3 (cd := .eq) (o := 12) (by decide +kernel) (pc' := 499) (by decide) (by decide : (0 : Int32) = 0) ?_
    refine blk C P3 [.iconst 0, .istore 15, .aload 14] (by decide +kernel) (pc' := 504) (L' := [.val (.int x0), .val (.int x1), .val (.int x2), .val (.int x3), .val (.int (x0 &&& (7 : Int32))), .val (.ref pf), .val (.ref ur), .val (.ref nsp), .val (.int (0 : Int32)), .val (.ref nm), .val (.int (0 : Int32)), .val (.int (x1 &&& (3 : Int32))), .val (.ref vl), .val (.null), .val (.ref h.size), .val (.int (0 : Int32))]) (S' := [.ref h.size]) rfl ?_
    refine c_virtual C P3 (idx := 55) (y := (⟨"com/example/archive_packager/archivepackager/dc/DcElement$Attribute", "isType", "()Z"⟩ : MethodName)) (K0 := "com/example/archive_packager/archivepackager/dc/DcElement$Attribute") (ybytes := prog_13_method_2_code) (ymax := 1) (yret := (some .boolean)) (yrm := ({ frames := 2, cells := 2, slots := 20, locals := 28 } : Room)) (by decide +kernel) (hw _ (List.mem_of_getElem? (i := 50) rfl)) (hw _ (List.mem_of_getElem? (i := 51) rfl)) (hw _ (List.mem_of_getElem? (i := 53) rfl)) (hw _ (List.mem_of_getElem? (i := 52) rfl)) (hw _ (List.mem_of_getElem? (i := 32) rfl)) (hw _ (List.mem_of_getElem? (i := 54) rfl)) (by decide) A3 [] [] (k_is_r l wd (h.size) nsp ur nm P3.old F3_0 F3_1 (A.ext (exK E2 K3 (Nat.le_refl _))) (G.ext (exK E2 K3 (Nat.le_refl _))) (S.ext (exK E2 K3 (Nat.le_refl _))) (Sn.ext (exK E2 K3 (Nat.le_refl _)))) (le_ _ _ rfl) (W := 0) (le_ _ _ rfl) (by decide +kernel : parseMethodDescriptor "()Z" = some ⟨[], some .boolean⟩) rfl rfl rfl (le_ _ _ rfl) (le_ _ _ rfl) (le_ _ _ rfl) (pc' := 507) rfl (fun T4 h4 v4 P4 Q4 => ?_)
    replace P4 := P4.more (k' := 16) (n' := 258) (le_ _ _ rfl) (le_ _ _ rfl)
    obtain ⟨Q4, E4⟩ := Q4
    rcases Q4 with ⟨rfl, Q4⟩ | ⟨rfl, Q4⟩
    · skip
      exact absurd Q4 (fun z => hu z.1)
    · skip
      refine blk C P4 [.iload 15] (by decide +kernel) (pc' := 509) (L' := [.val (.int x0), .val (.int x1), .val (.int x2), .val (.int x3), .val (.int (x0 &&& (7 : Int32))), .val (.ref pf), .val (.ref ur), .val (.ref nsp), .val (.int (0 : Int32)), .val (.ref nm), .val (.int (0 : Int32)), .val (.int (x1 &&& (3 : Int32))), .val (.ref vl), .val (.null), .val (.ref h.size), .val (.int (0 : Int32))]) (S' := [.int (0 : Int32), .int (0 : Int32)]) rfl ?_
      refine b_cmN C P4 (cd := .ne) (o := 7) (by decide +kernel) (pc' := 512) rfl (by decide : (0 : Int32) = (0 : Int32)) ?_
      refine blk C P4 [.iconst 1] (by decide +kernel) (pc' := 513) (L' := [.val (.int x0), .val (.int x1), .val (.int x2), .val (.int x3), .val (.int (x0 &&& (7 : Int32))), .val (.ref pf), .val (.ref ur), .val (.ref nsp), .val (.int (0 : Int32)), .val (.ref nm), .val (.int (0 : Int32)), .val (.int (x1 &&& (3 : Int32))), .val (.ref vl), .val (.null), .val (.ref h.size), .val (.int (0 : Int32))]) (S' := [.int (1 : Int32)]) rfl ?_
      refine b_goto C P4 (o := 4) (by decide +kernel) (pc' := 517) (by decide) ?_
      exact r_int C P4 (ty := .boolean) (by simp) rfl (by decide +kernel) (le_ _ _ rfl) (le_ _ _ rfl) ⟨_, rfl, rfl⟩
  · skip
    refine s_gets C P (idx := 15) (by decide +kernel) (hw _ (List.mem_of_getElem? (i := 87) rfl)) YX (pc' := 457) rfl (fun T5 P5 => ?_)
    refine b_goto C P5 (o := 4) (by decide +kernel) (pc' := 461) (by decide) ?_
    refine blk C P5 [.astore 13] (by decide +kernel) (pc' := 463) (L' := [.val (.int x0), .val (.int x1), .val (.int x2), .val (.int x3), .val (.int (x0 &&& (7 : Int32))), .val (.ref pf), .val (.ref ur), .val (.ref nsp), .val (.int (0 : Int32)), .val (.ref nm), .val (.int (0 : Int32)), .val (.int (x1 &&& (3 : Int32))), .val (.ref vl), .val (.ref kX), .val (.int c2), .val (.int c3)]) (S' := []) rfl ?_
    refine s_new C P5 (idx := 50) (by decide +kernel) (hw _ (List.mem_of_getElem? (i := 30) rfl)) (hw _ (List.mem_of_getElem? (i := 31) rfl)) (hw _ (List.mem_of_getElem? (i := 32) rfl)) (le_ _ _ rfl) (le_ _ _ rfl) (pc' := 466) rfl (fun T6 h6 P6 E6 B6 => ?_)
    replace P6 := P6.more (k' := 14) (n' := 238) (le_ _ _ rfl) (le_ _ _ rfl)
    refine blk C P6 [.dup, .aload 7, .aload 9, .aload 12, .aload 13] (by decide +kernel) (pc' := 475) (L' := [.val (.int x0), .val (.int x1), .val (.int x2), .val (.int x3), .val (.int (x0 &&& (7 : Int32))), .val (.ref pf), .val (.ref ur), .val (.ref nsp), .val (.int (0 : Int32)), .val (.ref nm), .val (.int (0 : Int32)), .val (.int (x1 &&& (3 : Int32))), .val (.ref vl), .val (.ref kX), .val (.int c2), .val (.int c3)]) (S' := [.ref kX, .ref vl, .ref nm, .ref nsp, .ref h.size, .ref h.size]) rfl ?_
    refine c_special C P6 (idx := 52) (y := (⟨"com/example/archive_packager/archivepackager/dc/DcElement$Attribute", "<init>", "(Lcom/example/archive_packager/archivepackager/xml/Namespace;Ljava/lang/String;Ljava/lang/String;Lcom/example/archive_packager/archivepackager/xml/Namespace;)V"⟩ : MethodName)) (ybytes := prog_13_method_1_code) (ymax := 5) (yrm := ({ frames := 2, cells := 0, slots := 0, locals := 24 } : Room)) rfl (by decide +kernel) (hw _ (List.mem_of_getElem? (i := 33) rfl)) (hw _ (List.mem_of_getElem? (i := 34) rfl)) (hw _ (List.mem_of_getElem? (i := 32) rfl)) (hw _ (List.mem_of_getElem? (i := 35) rfl)) (by decide) [.ref nsp, .ref nm, .ref vl, .ref kX] [.ref h.size] (k_att_rr l wd (h.size) nsp nm vl kX P6.old B6) (le_ _ _ rfl) (W := 1) (le_ _ _ rfl) (by decide +kernel : parseMethodDescriptor "(Lcom/example/archive_packager/archivepackager/xml/Namespace;Ljava/lang/String;Ljava/lang/String;Lcom/example/archive_packager/archivepackager/xml/Namespace;)V" = some ⟨[(.object "com/example/archive_packager/archivepackager/xml/Namespace"), (.object "java/lang/String"), (.object "java/lang/String"), (.object "com/example/archive_packager/archivepackager/xml/Namespace")], none⟩) rfl rfl rfl (le_ _ _ rfl) (le_ _ _ rfl) (le_ _ _ rfl) (pc' := 478) rfl (fun T7 h7 P7 Q7 => ?_)
    replace P7 := P7.more (k' := 14) (n' := 238) (le_ _ _ rfl) (le_ _ _ rfl)
    obtain ⟨K7, A7, F7_0, F7_1⟩ := Q7
    refine blk C P7 [.astore 14, .iload 4] (by decide +kernel) (pc' := 482) (L' := [.val (.int x0), .val (.int x1), .val (.int x2), .val (.int x3), .val (.int (x0 &&& (7 : Int32))), .val (.ref pf), .val (.ref ur), .val (.ref nsp), .val (.int (0 : Int32)), .val (.ref nm), .val (.int (0 : Int32)), .val (.int (x1 &&& (3 : Int32))), .val (.ref vl), .val (.ref kX), .val (.ref h.size), .val (.int c3)]) (S' := [.int (x0 &&& (7 : Int32))]) rfl ?_
    refine b_ifN C P7 (cd := .eq) (o := 17) (by decide +kernel) (pc' := 485) rfl hu0 ?_
    refine blk C P7 [.iload 8] (by decide +kernel) (pc' := 487) (L' := [.val (.int x0), .val (.int x1), .val (.int x2), .val (.int x3), .val (.int (x0 &&& (7 : Int32))), .val (.ref pf), .val (.ref ur), .val (.ref nsp), .val (.int (0 : Int32)), .val (.ref nm), .val (.int (0 : Int32)), .val (.int (x1 &&& (3 : Int32))), .val (.ref vl), .val (.ref kX), .val (.ref h.size), .val (.int c3)]) (S' := [.int (0 : Int32)]) rfl ?_
    refine b_ifY C P7 (cd := .eq) (o := 12) (by decide +kernel) (pc' := 499) (by decide) (by decide : (0 : Int32) = 0) ?_
    refine blk C P7 [.iconst 0, .istore 15, .aload 14] (by decide +kernel) (pc' := 504) (L' := [.val (.int x0), .val (.int x1), .val (.int x2), .val (.int x3), .val (.int (x0 &&& (7 : Int32))), .val (.ref pf), .val (.ref ur), .val (.ref nsp), .val (.int (0 : Int32)), .val (.ref nm), .val (.int (0 : Int32)), .val (.int (x1 &&& (3 : Int32))), .val (.ref vl), .val (.ref kX), .val (.ref h.size), .val (.int (0 : Int32))]) (S' := [.ref h.size]) rfl ?_
    refine c_virtual C P7 (idx := 55) (y := (⟨"com/example/archive_packager/archivepackager/dc/DcElement$Attribute", "isType", "()Z"⟩ : MethodName)) (K0 := "com/example/archive_packager/archivepackager/dc/DcElement$Attribute") (ybytes := prog_13_method_2_code) (ymax := 1) (yret := (some .boolean)) (yrm := ({ frames := 2, cells := 2, slots := 20, locals := 28 } : Room)) (by decide +kernel) (hw _ (List.mem_of_getElem? (i := 50) rfl)) (hw _ (List.mem_of_getElem? (i := 51) rfl)) (hw _ (List.mem_of_getElem? (i := 53) rfl)) (hw _ (List.mem_of_getElem? (i := 52) rfl)) (hw _ (List.mem_of_getElem? (i := 32) rfl)) (hw _ (List.mem_of_getElem? (i := 54) rfl)) (by decide) A7 [] [] (k_is_r l wd (h.size) nsp ur nm P7.old F7_0 F7_1 (A.ext (exK E6 K7 (Nat.le_refl _))) (G.ext (exK E6 K7 (Nat.le_refl _))) (S.ext (exK E6 K7 (Nat.le_refl _))) (Sn.ext (exK E6 K7 (Nat.le_refl _)))) (le_ _ _ rfl) (W := 0) (le_ _ _ rfl) (by decide +kernel : parseMethodDescriptor "()Z" = some ⟨[], some .boolean⟩) rfl rfl rfl (le_ _ _ rfl) (le_ _ _ rfl) (le_ _ _ rfl) (pc' := 507) rfl (fun T8 h8 v8 P8 Q8 => ?_)
    replace P8 := P8.more (k' := 16) (n' := 258) (le_ _ _ rfl) (le_ _ _ rfl)
    obtain ⟨Q8, E8⟩ := Q8
    rcases Q8 with ⟨rfl, Q8⟩ | ⟨rfl, Q8⟩
    · skip
      exact absurd Q8 (fun z => hu z.1)
    · skip
      refine blk C P8 [.iload 15] (by decide +kernel) (pc' := 509) (L' := [.val (.int x0), .val (.int x1), .val (.int x2), .val (.int x3), .val (.int (x0 &&& (7 : Int32))), .val (.ref pf), .val (.ref ur), .val (.ref nsp), .val (.int (0 : Int32)), .val (.ref nm), .val (.int (0 : Int32)), .val (.int (x1 &&& (3 : Int32))), .val (.ref vl), .val (.ref kX), .val (.ref h.size), .val (.int (0 : Int32))]) (S' := [.int (0 : Int32), .int (0 : Int32)]) rfl ?_
      refine b_cmN C P8 (cd := .ne) (o := 7) (by decide +kernel) (pc' := 512) rfl (by decide : (0 : Int32) = (0 : Int32)) ?_
      refine blk C P8 [.iconst 1] (by decide +kernel) (pc' := 513) (L' := [.val (.int x0), .val (.int x1), .val (.int x2), .val (.int x3), .val (.int (x0 &&& (7 : Int32))), .val (.ref pf), .val (.ref ur), .val (.ref nsp), .val (.int (0 : Int32)), .val (.ref nm), .val (.int (0 : Int32)), .val (.int (x1 &&& (3 : Int32))), .val (.ref vl), .val (.ref kX), .val (.ref h.size), .val (.int (0 : Int32))]) (S' := [.int (1 : Int32)]) rfl ?_
      refine b_goto C P8 (o := 4) (by decide +kernel) (pc' := 517) (by decide) ?_
      exact r_int C P8 (ty := .boolean) (by simp) rfl (by decide +kernel) (le_ _ _ rfl) (le_ _ _ rfl) ⟨_, rfl, rfl⟩
set_option maxRecDepth 65536 in
set_option maxHeartbeats 4000000 in
theorem t419_f0c (l : Launch) {Z : State} {a0 : Array Value} {n0 : Nat} {h : Heap} {z : Int32} {kX uX kD uD : Addr} {dl : List Int32} (wd : Wd Z a0 z kX uX kD uD dl) (x0 x1 x2 x3 : Int32) (pf ur nsp : Addr) (nm : Addr) (c0 c1 c2 c3 : Int32) {us : List Int32} {nms : List Int32} {p : Program} {e : Env} {s : State} {m : MethodId} {args : Array Value} {below : List Frame} {meth : Method} {c : Code} {T : State} (C : Ctx Z a0 consts_1 p s m meth c "com/example/archive_packager/archivepackager/dc/AttributeIsTypePinLaw" "law" code 16 (some .boolean)) (P : Pos Z consts_1 n0 p l e room_1 s m args below meth c T h 11 214) (hu0 : ¬ (x0 &&& (7 : Int32)) = 0) (A : Exa Z h nsp "com/example/archive_packager/archivepackager/xml/Namespace") (G : Fld Z h nsp "com/example/archive_packager/archivepackager/xml/Namespace" "uri" "Ljava/lang/String;" (.ref ur)) (S : Str Z h ur us) (hu : ¬ us = (txt 84)) (Sn : Str Z h nm nms) (hn : ¬ nms = (txt 88)) :
    Jvm.Own.Run p.tables e below (Jvm.Own.Ends Z consts_1 n0 room_1 below (Ret1 fun v h' => v = .int 1) s) T (fr m 419 [.val (.int x0), .val (.int x1), .val (.int x2), .val (.int x3), .val (.int (x0 &&& (7 : Int32))), .val (.ref pf), .val (.ref ur), .val (.ref nsp), .val (.int (0 : Int32)), .val (.ref nm), .val (.int (0 : Int32)), .val (.int (x1 &&& (3 : Int32))), .val (.int c0), .val (.int c1), .val (.int c2), .val (.int c3)] []) := by
  obtain ⟨hw, hEL, Sz, hz, YX, XX, GX, SX, YD, XD, GD, SDt, hdl⟩ := id wd
  have wS : ∀ a ∈ Bundle.stringAtoms, a.before a0 Z = true := fun d hd => hw d ((by decide +kernel : ∀ d ∈ Bundle.stringAtoms, d ∈ tables_1) d hd)
  refine blk C P [.iload_n 0, .iconst 5, .ishr, .iconst 1, .iand] (by decide +kernel) (pc' := 424) (L' := [.val (.int x0), .val (.int x1), .val (.int x2), .val (.int x3), .val (.int (x0 &&& (7 : Int32))), .val (.ref pf), .val (.ref ur), .val (.ref nsp), .val (.int (0 : Int32)), .val (.ref nm), .val (.int (0 : Int32)), .val (.int (x1 &&& (3 : Int32))), .val (.int c0), .val (.int c1), .val (.int c2), .val (.int c3)]) (S' := [.int ((x0 >>> ((5 : Int32) &&& 31)) &&& (1 : Int32))]) rfl ?_
  refine b_if C P (cd := .eq) (o := 8) (by decide +kernel) (pc' := 432) (by decide) (pn := 427) rfl (fun (q1 : ((x0 >>> ((5 : Int32) &&& 31)) &&& (1 : Int32)) = 0) => ?_) (fun (q1 : ¬ ((x0 >>> ((5 : Int32) &&& 31)) &&& (1 : Int32)) = 0) => ?_)
  · skip
    refine blk C P [.iload_n 3, .bipush 24, .ishr, .sipush 255, .iand, .i2c] (by decide +kernel) (pc' := 441) (L' := [.val (.int x0), .val (.int x1), .val (.int x2), .val (.int x3), .val (.int (x0 &&& (7 : Int32))), .val (.ref pf), .val (.ref ur), .val (.ref nsp), .val (.int (0 : Int32)), .val (.ref nm), .val (.int (0 : Int32)), .val (.int (x1 &&& (3 : Int32))), .val (.int c0), .val (.int c1), .val (.int c2), .val (.int c3)]) (S' := [.int (c16 ((x3 >>> ((24 : Int32) &&& 31)) &&& (255 : Int32)))]) rfl ?_
    refine c_static C P (idx := 9) (y := (⟨"java/lang/String", "valueOf", "(C)Ljava/lang/String;"⟩ : MethodName)) (ybytes := jdk_42_method_139_code) (ymax := 1) (yret := (some (.object "java/lang/String"))) (yrm := ({ frames := 2, cells := 2, slots := 5, locals := 28 } : Room)) (by decide +kernel) (hw _ (List.mem_of_getElem? (i := 0) rfl)) (hw _ (List.mem_of_getElem? (i := 1) rfl)) (hw _ (List.mem_of_getElem? (i := 2) rfl)) (hw _ (List.mem_of_getElem? (i := 3) rfl)) (by decide) [.int (c16 ((x3 >>> ((24 : Int32) &&& 31)) &&& (255 : Int32)))] [] (k_valueOf l hw hEL Sz hz (c16 ((x3 >>> ((24 : Int32) &&& 31)) &&& (255 : Int32))) P.old latv) (le_ _ _ rfl) (W := 0) (le_ _ _ rfl) (by decide +kernel : parseMethodDescriptor "(C)Ljava/lang/String;" = some ⟨[.char], some (.object "java/lang/String")⟩) rfl rfl rfl (le_ _ _ rfl) (le_ _ _ rfl) (le_ _ _ rfl) (pc' := 444) rfl (fun T2 h2 v2 P2 Q2 => ?_)
    replace P2 := P2.more (k' := 13) (n' := 219) (le_ _ _ rfl) (le_ _ _ rfl)
    obtain ⟨b2, rfl, E2, S2⟩ := Q2
    refine blk C P2 [.astore 12] (by decide +kernel) (pc' := 446) (L' := [.val (.int x0), .val (.int x1), .val (.int x2), .val (.int x3), .val (.int (x0 &&& (7 : Int32))), .val (.ref pf), .val (.ref ur), .val (.ref nsp), .val (.int (0 : Int32)), .val (.ref nm), .val (.int (0 : Int32)), .val (.int (x1 &&& (3 : Int32))), .val (.ref b2), .val (.int c1), .val (.int c2), .val (.int c3)]) (S' := []) rfl ?_
    exact t446_f0c l wd x0 x1 x2 x3 pf ur nsp nm b2 c0 c1 c2 c3 C (P2.more (k' := 13) (n' := 234) (le_ _ _ rfl) (le_ _ _ rfl)) hu0 (A.ext E2) (G.ext E2) (S.ext E2) hu (Sn.ext E2) hn
  · skip
    refine s_ldc C P (idx := 42) (txt 86) (by decide +kernel) (hw _ (List.mem_of_getElem? (i := 86) rfl)) wS (by decide +kernel) (by decide +kernel) (by decide +kernel) (by decide +kernel) (len := 16) (by decide) (by decide) (le_ _ _ rfl) (le_ _ _ rfl) (pc' := 429) rfl (fun T3 h3 a3 P3 E3 S3 => ?_)
    replace P3 := P3.more (k' := 13) (n' := 234) (le_ _ _ rfl) (le_ _ _ rfl)
    refine b_goto C P3 (o := 15) (by decide +kernel) (pc' := 444) (by decide) ?_
    refine blk C P3 [.astore 12] (by decide +kernel) (pc' := 446) (L' := [.val (.int x0), .val (.int x1), .val (.int x2), .val (.int x3), .val (.int (x0 &&& (7 : Int32))), .val (.ref pf), .val (.ref ur), .val (.ref nsp), .val (.int (0 : Int32)), .val (.ref nm), .val (.int (0 : Int32)), .val (.int (x1 &&& (3 : Int32))), .val (.ref a3), .val (.int c1), .val (.int c2), .val (.int c3)]) (S' := []) rfl ?_
    exact t446_f0c l wd x0 x1 x2 x3 pf ur nsp nm a3 c0 c1 c2 c3 C (P3.more (k' := 13) (n' := 234) (le_ _ _ rfl) (le_ _ _ rfl)) hu0 (A.ext E3) (G.ext E3) (S.ext E3) hu (Sn.ext E3) hn
set_option maxRecDepth 65536 in
set_option maxHeartbeats 4000000 in
theorem t313_f (l : Launch) {Z : State} {a0 : Array Value} {n0 : Nat} {h : Heap} {z : Int32} {kX uX kD uD : Addr} {dl : List Int32} (wd : Wd Z a0 z kX uX kD uD dl) (x0 x1 x2 x3 : Int32) (pf ur nsp : Addr) (c0 c1 c2 c3 : Int32) {us : List Int32} {p : Program} {e : Env} {s : State} {m : MethodId} {args : Array Value} {below : List Frame} {meth : Method} {c : Code} {T : State} (C : Ctx Z a0 consts_1 p s m meth c "com/example/archive_packager/archivepackager/dc/AttributeIsTypePinLaw" "law" code 16 (some .boolean)) (P : Pos Z consts_1 n0 p l e room_1 s m args below meth c T h 7 190) (hu0 : ¬ (x0 &&& (7 : Int32)) = 0) (A : Exa Z h nsp "com/example/archive_packager/archivepackager/xml/Namespace") (G : Fld Z h nsp "com/example/archive_packager/archivepackager/xml/Namespace" "uri" "Ljava/lang/String;" (.ref ur)) (S : Str Z h ur us) (hu : ¬ us = (txt 84)) (l0 : ¬ c0 < 0 ∧ ¬ (255 : Int32) < c0) (i0 : c16 c0 = c0) (l1 : ¬ c1 < 0 ∧ ¬ (255 : Int32) < c1) (i1 : c16 c1 = c1) (l2 : ¬ c2 < 0 ∧ ¬ (255 : Int32) < c2) (i2 : c16 c2 = c2) (l3 : ¬ c3 < 0 ∧ ¬ (255 : Int32) < c3) (i3 : c16 c3 = c3) :
    Jvm.Own.Run p.tables e below (Jvm.Own.Ends Z consts_1 n0 room_1 below (Ret1 fun v h' => v = .int 1) s) T (fr m 313 [.val (.int x0), .val (.int x1), .val (.int x2), .val (.int x3), .val (.int (x0 &&& (7 : Int32))), .val (.ref pf), .val (.ref ur), .val (.ref nsp), .val (.int (0 : Int32)), .unset, .unset, .val (.int (x1 &&& (3 : Int32))), .val (.int c0), .val (.int c1), .val (.int c2), .val (.int c3)] []) := by
  obtain ⟨hw, hEL, Sz, hz, YX, XX, GX, SX, YD, XD, GD, SDt, hdl⟩ := id wd
  have wS : ∀ a ∈ Bundle.stringAtoms, a.before a0 Z = true := fun d hd => hw d ((by decide +kernel : ∀ d ∈ Bundle.stringAtoms, d ∈ tables_1) d hd)
  refine s_new C P (idx := 10) (by decide +kernel) (hw _ (List.mem_of_getElem? (i := 90) rfl)) (hw _ (List.mem_of_getElem? (i := 10) rfl)) (hw _ (List.mem_of_getElem? (i := 2) rfl)) (le_ _ _ rfl) (le_ _ _ rfl) (pc' := 316) rfl (fun T1 h1 P1 E1 B1 => ?_)
  replace P1 := P1.more (k' := 8) (n' := 194) (le_ _ _ rfl) (le_ _ _ rfl)
  refine blk C P1 [.dup, .iconst 4] (by decide +kernel) (pc' := 318) (L' := [.val (.int x0), .val (.int x1), .val (.int x2), .val (.int x3), .val (.int (x0 &&& (7 : Int32))), .val (.ref pf), .val (.ref ur), .val (.ref nsp), .val (.int (0 : Int32)), .unset, .unset, .val (.int (x1 &&& (3 : Int32))), .val (.int c0), .val (.int c1), .val (.int c2), .val (.int c3)]) (S' := [.int (4 : Int32), .ref h.size, .ref h.size]) rfl ?_
  refine s_newC C P1 4 (by decide +kernel) (hw _ (List.mem_of_getElem? (i := 91) rfl)) rfl (by decide) (le_ _ _ rfl) (le_ _ _ rfl) (pc' := 320) rfl (fun T2 h2 P2 E2 V2 => ?_)
  replace P2 := P2.more (k' := 9) (n' := 198) (le_ _ _ rfl) (le_ _ _ rfl)
  refine blk C P2 [.dup, .iconst 0, .iload 12] (by decide +kernel) (pc' := 324) (L' := [.val (.int x0), .val (.int x1), .val (.int x2), .val (.int x3), .val (.int (x0 &&& (7 : Int32))), .val (.ref pf), .val (.ref ur), .val (.ref nsp), .val (.int (0 : Int32)), .unset, .unset, .val (.int (x1 &&& (3 : Int32))), .val (.int c0), .val (.int c1), .val (.int c2), .val (.int c3)]) (S' := [.int c0, .int (0 : Int32), .ref h1.size, .ref h1.size, .ref h.size, .ref h.size]) rfl ?_
  refine s_stC C P2 0 (by decide +kernel) V2 rfl (Nat.lt_of_lt_of_le (Nat.lt_succ_self _) (le_ _ _ rfl)) i0 (pc' := 325) rfl (fun T3 h3 P3 K3 V3 => ?_)
  replace V3 : Chs Z n0 h3 (h1.size) [c0, (0 : Int32), (0 : Int32), (0 : Int32)] := V3
  refine blk C P3 [.dup, .iconst 1, .iload 13] (by decide +kernel) (pc' := 329) (L' := [.val (.int x0), .val (.int x1), .val (.int x2), .val (.int x3), .val (.int (x0 &&& (7 : Int32))), .val (.ref pf), .val (.ref ur), .val (.ref nsp), .val (.int (0 : Int32)), .unset, .unset, .val (.int (x1 &&& (3 : Int32))), .val (.int c0), .val (.int c1), .val (.int c2), .val (.int c3)]) (S' := [.int c1, .int (1 : Int32), .ref h1.size, .ref h1.size, .ref h.size, .ref h.size]) rfl ?_
  refine s_stC C P3 1 (by decide +kernel) V3 rfl (Nat.lt_of_lt_of_le (Nat.lt_succ_self _) (le_ _ _ rfl)) i1 (pc' := 330) rfl (fun T4 h4 P4 K4 V4 => ?_)
  replace V4 : Chs Z n0 h4 (h1.size) [c0, c1, (0 : Int32), (0 : Int32)] := V4
  refine blk C P4 [.dup, .iconst 2, .iload 14] (by decide +kernel) (pc' := 334) (L' := [.val (.int x0), .val (.int x1), .val (.int x2), .val (.int x3), .val (.int (x0 &&& (7 : Int32))), .val (.ref pf), .val (.ref ur), .val (.ref nsp), .val (.int (0 : Int32)), .unset, .unset, .val (.int (x1 &&& (3 : Int32))), .val (.int c0), .val (.int c1), .val (.int c2), .val (.int c3)]) (S' := [.int c2, .int (2 : Int32), .ref h1.size, .ref h1.size, .ref h.size, .ref h.size]) rfl ?_
  refine s_stC C P4 2 (by decide +kernel) V4 rfl (Nat.lt_of_lt_of_le (Nat.lt_succ_self _) (le_ _ _ rfl)) i2 (pc' := 335) rfl (fun T5 h5 P5 K5 V5 => ?_)
  replace V5 : Chs Z n0 h5 (h1.size) [c0, c1, c2, (0 : Int32)] := V5
  refine blk C P5 [.dup, .iconst 3, .iload 15] (by decide +kernel) (pc' := 339) (L' := [.val (.int x0), .val (.int x1), .val (.int x2), .val (.int x3), .val (.int (x0 &&& (7 : Int32))), .val (.ref pf), .val (.ref ur), .val (.ref nsp), .val (.int (0 : Int32)), .unset, .unset, .val (.int (x1 &&& (3 : Int32))), .val (.int c0), .val (.int c1), .val (.int c2), .val (.int c3)]) (S' := [.int c3, .int (3 : Int32), .ref h1.size, .ref h1.size, .ref h.size, .ref h.size]) rfl ?_
  refine s_stC C P5 3 (by decide +kernel) V5 rfl (Nat.lt_of_lt_of_le (Nat.lt_succ_self _) (le_ _ _ rfl)) i3 (pc' := 340) rfl (fun T6 h6 P6 K6 V6 => ?_)
  replace V6 : Chs Z n0 h6 (h1.size) [c0, c1, c2, c3] := V6
  have B8 := (B1.ext (exK (exK (exK (exK E2 K3 (Nat.le_refl _)) K4 (Nat.le_refl _)) K5 (Nat.le_refl _)) K6 (Nat.le_refl _)))
  refine c_newStr C P6 hw Sz hz (idx := 31) (cs := [c0, c1, c2, c3]) (rest := [.ref h.size]) (W := 1) (by decide +kernel) (hw _ (List.mem_of_getElem? (i := 92) rfl)) (hw _ (List.mem_of_getElem? (i := 93) rfl)) B8 V6 (latS l0 (latS l1 (latS l2 (latS l3 lat0)))) (by simp) rfl (le_ _ _ rfl) (le_ _ _ rfl) (le_ _ _ rfl) (le_ _ _ rfl) (le_ _ _ rfl) (pc' := 343) rfl (fun T7 h7 P7 K7 S7 => ?_)
  replace P7 := P7.more (k' := 11) (n' := 206) (le_ _ _ rfl) (le_ _ _ rfl)
  refine blk C P7 [.astore 9, .iload 12, .bipush 116] (by decide +kernel) (pc' := 349) (L' := [.val (.int x0), .val (.int x1), .val (.int x2), .val (.int x3), .val (.int (x0 &&& (7 : Int32))), .val (.ref pf), .val (.ref ur), .val (.ref nsp), .val (.int (0 : Int32)), .val (.ref h.size), .unset, .val (.int (x1 &&& (3 : Int32))), .val (.int c0), .val (.int c1), .val (.int c2), .val (.int c3)]) (S' := [.int (116 : Int32), .int c0]) rfl ?_
  refine b_cm C P7 (cd := .ne) (o := 28) (by decide +kernel) (pc' := 377) (by decide) (pn := 352) rfl (fun (q9 : ¬ c0 = (116 : Int32)) => ?_) (fun (q9 : c0 = (116 : Int32)) => ?_)
  · skip
    refine blk C P7 [.iconst 0, .istore 10] (by decide +kernel) (pc' := 380) (L' := [.val (.int x0), .val (.int x1), .val (.int x2), .val (.int x3), .val (.int (x0 &&& (7 : Int32))), .val (.ref pf), .val (.ref ur), .val (.ref nsp), .val (.int (0 : Int32)), .val (.ref h.size), .val (.int (0 : Int32)), .val (.int (x1 &&& (3 : Int32))), .val (.int c0), .val (.int c1), .val (.int c2), .val (.int c3)]) (S' := []) rfl ?_
    refine b_goto C P7 (o := 39) (by decide +kernel) (pc' := 419) (by decide) ?_
    exact t419_f0c l wd x0 x1 x2 x3 pf ur nsp (h.size) c0 c1 c2 c3 C (P7.more (k' := 11) (n' := 214) (le_ _ _ rfl) (le_ _ _ rfl)) hu0 (A.ext (exK (exK (exK (exK (exK (exT E1 E2) K3 (E1).1) K4 (E1).1) K5 (E1).1) K6 (E1).1) K7 (Nat.le_refl _))) (G.ext (exK (exK (exK (exK (exK (exT E1 E2) K3 (E1).1) K4 (E1).1) K5 (E1).1) K6 (E1).1) K7 (Nat.le_refl _))) (S.ext (exK (exK (exK (exK (exK (exT E1 E2) K3 (E1).1) K4 (E1).1) K5 (E1).1) K6 (E1).1) K7 (Nat.le_refl _))) hu S7 (fun z => q9 (ne4.mp (z.trans (by decide +kernel : (txt 88) = [(116 : Int32), 121, 112, 101]))).1)
  · skip
    refine blk C P7 [.iload 13, .bipush 121] (by decide +kernel) (pc' := 356) (L' := [.val (.int x0), .val (.int x1), .val (.int x2), .val (.int x3), .val (.int (x0 &&& (7 : Int32))), .val (.ref pf), .val (.ref ur), .val (.ref nsp), .val (.int (0 : Int32)), .val (.ref h.size), .unset, .val (.int (x1 &&& (3 : Int32))), .val (.int c0), .val (.int c1), .val (.int c2), .val (.int c3)]) (S' := [.int (121 : Int32), .int c1]) rfl ?_
    refine b_cm C P7 (cd := .ne) (o := 21) (by decide +kernel) (pc' := 377) (by decide) (pn := 359) rfl (fun (q10 : ¬ c1 = (121 : Int32)) => ?_) (fun (q10 : c1 = (121 : Int32)) => ?_)
    · skip
      refine blk C P7 [.iconst 0, .istore 10] (by decide +kernel) (pc' := 380) (L' := [.val (.int x0), .val (.int x1), .val (.int x2), .val (.int x3), .val (.int (x0 &&& (7 : Int32))), .val (.ref pf), .val (.ref ur), .val (.ref nsp), .val (.int (0 : Int32)), .val (.ref h.size), .val (.int (0 : Int32)), .val (.int (x1 &&& (3 : Int32))), .val (.int c0), .val (.int c1), .val (.int c2), .val (.int c3)]) (S' := []) rfl ?_
      refine b_goto C P7 (o := 39) (by decide +kernel) (pc' := 419) (by decide) ?_
      exact t419_f0c l wd x0 x1 x2 x3 pf ur nsp (h.size) c0 c1 c2 c3 C (P7.more (k' := 11) (n' := 214) (le_ _ _ rfl) (le_ _ _ rfl)) hu0 (A.ext (exK (exK (exK (exK (exK (exT E1 E2) K3 (E1).1) K4 (E1).1) K5 (E1).1) K6 (E1).1) K7 (Nat.le_refl _))) (G.ext (exK (exK (exK (exK (exK (exT E1 E2) K3 (E1).1) K4 (E1).1) K5 (E1).1) K6 (E1).1) K7 (Nat.le_refl _))) (S.ext (exK (exK (exK (exK (exK (exT E1 E2) K3 (E1).1) K4 (E1).1) K5 (E1).1) K6 (E1).1) K7 (Nat.le_refl _))) hu S7 (fun z => q10 (ne4.mp (z.trans (by decide +kernel : (txt 88) = [(116 : Int32), 121, 112, 101]))).2.1)
    · skip
      refine blk C P7 [.iload 14, .bipush 112] (by decide +kernel) (pc' := 363) (L' := [.val (.int x0), .val (.int x1), .val (.int x2), .val (.int x3), .val (.int (x0 &&& (7 : Int32))), .val (.ref pf), .val (.ref ur), .val (.ref nsp), .val (.int (0 : Int32)), .val (.ref h.size), .unset, .val (.int (x1 &&& (3 : Int32))), .val (.int c0), .val (.int c1), .val (.int c2), .val (.int c3)]) (S' := [.int (112 : Int32), .int c2]) rfl ?_
      refine b_cm C P7 (cd := .ne) (o := 14) (by decide +kernel) (pc' := 377) (by decide) (pn := 366) rfl (fun (q11 : ¬ c2 = (112 : Int32)) => ?_) (fun (q11 : c2 = (112 : Int32)) => ?_)
      · skip
        refine blk C P7 [.iconst 0, .istore 10] (by decide +kernel) (pc' := 380) (L' := [.val (.int x0), .val (.int x1), .val (.int x2), .val (.int x3), .val (.int (x0 &&& (7 : Int32))), .val (.ref pf), .val (.ref ur), .val (.ref nsp), .val (.int (0 : Int32)), .val (.ref h.size), .val (.int (0 : Int32)), .val (.int (x1 &&& (3 : Int32))), .val (.int c0), .val (.int c1), .val (.int c2), .val (.int c3)]) (S' := []) rfl ?_
        refine b_goto C P7 (o := 39) (by decide +kernel) (pc' := 419) (by decide) ?_
        exact t419_f0c l wd x0 x1 x2 x3 pf ur nsp (h.size) c0 c1 c2 c3 C (P7.more (k' := 11) (n' := 214) (le_ _ _ rfl) (le_ _ _ rfl)) hu0 (A.ext (exK (exK (exK (exK (exK (exT E1 E2) K3 (E1).1) K4 (E1).1) K5 (E1).1) K6 (E1).1) K7 (Nat.le_refl _))) (G.ext (exK (exK (exK (exK (exK (exT E1 E2) K3 (E1).1) K4 (E1).1) K5 (E1).1) K6 (E1).1) K7 (Nat.le_refl _))) (S.ext (exK (exK (exK (exK (exK (exT E1 E2) K3 (E1).1) K4 (E1).1) K5 (E1).1) K6 (E1).1) K7 (Nat.le_refl _))) hu S7 (fun z => q11 (ne4.mp (z.trans (by decide +kernel : (txt 88) = [(116 : Int32), 121, 112, 101]))).2.2.1)
      · skip
        refine blk C P7 [.iload 15, .bipush 101] (by decide +kernel) (pc' := 370) (L' := [.val (.int x0), .val (.int x1), .val (.int x2), .val (.int x3), .val (.int (x0 &&& (7 : Int32))), .val (.ref pf), .val (.ref ur), .val (.ref nsp), .val (.int (0 : Int32)), .val (.ref h.size), .unset, .val (.int (x1 &&& (3 : Int32))), .val (.int c0), .val (.int c1), .val (.int c2), .val (.int c3)]) (S' := [.int (101 : Int32), .int c3]) rfl ?_
        refine b_cm C P7 (cd := .ne) (o := 7) (by decide +kernel) (pc' := 377) (by decide) (pn := 373) rfl (fun (q12 : ¬ c3 = (101 : Int32)) => ?_) (fun (q12 : c3 = (101 : Int32)) => ?_)
        · skip
          refine blk C P7 [.iconst 0, .istore 10] (by decide +kernel) (pc' := 380) (L' := [.val (.int x0), .val (.int x1), .val (.int x2), .val (.int x3), .val (.int (x0 &&& (7 : Int32))), .val (.ref pf), .val (.ref ur), .val (.ref nsp), .val (.int (0 : Int32)), .val (.ref h.size), .val (.int (0 : Int32)), .val (.int (x1 &&& (3 : Int32))), .val (.int c0), .val (.int c1), .val (.int c2), .val (.int c3)]) (S' := []) rfl ?_
          refine b_goto C P7 (o := 39) (by decide +kernel) (pc' := 419) (by decide) ?_
          exact t419_f0c l wd x0 x1 x2 x3 pf ur nsp (h.size) c0 c1 c2 c3 C (P7.more (k' := 11) (n' := 214) (le_ _ _ rfl) (le_ _ _ rfl)) hu0 (A.ext (exK (exK (exK (exK (exK (exT E1 E2) K3 (E1).1) K4 (E1).1) K5 (E1).1) K6 (E1).1) K7 (Nat.le_refl _))) (G.ext (exK (exK (exK (exK (exK (exT E1 E2) K3 (E1).1) K4 (E1).1) K5 (E1).1) K6 (E1).1) K7 (Nat.le_refl _))) (S.ext (exK (exK (exK (exK (exK (exT E1 E2) K3 (E1).1) K4 (E1).1) K5 (E1).1) K6 (E1).1) K7 (Nat.le_refl _))) hu S7 (fun z => q12 (ne4.mp (z.trans (by decide +kernel : (txt 88) = [(116 : Int32), 121, 112, 101]))).2.2.2)
        · skip
          refine blk C P7 [.iconst 1] (by decide +kernel) (pc' := 374) (L' := [.val (.int x0), .val (.int x1), .val (.int x2), .val (.int x3), .val (.int (x0 &&& (7 : Int32))), .val (.ref pf), .val (.ref ur), .val (.ref nsp), .val (.int (0 : Int32)), .val (.ref h.size), .unset, .val (.int (x1 &&& (3 : Int32))), .val (.int c0), .val (.int c1), .val (.int c2), .val (.int c3)]) (S' := [.int (1 : Int32)]) rfl ?_
          refine b_goto C P7 (o := 4) (by decide +kernel) (pc' := 378) (by decide) ?_
          refine blk C P7 [.istore 10] (by decide +kernel) (pc' := 380) (L' := [.val (.int x0), .val (.int x1), .val (.int x2), .val (.int x3), .val (.int (x0 &&& (7 : Int32))), .val (.ref pf), .val (.ref ur), .val (.ref nsp), .val (.int (0 : Int32)), .val (.ref h.size), .val (.int (1 : Int32)), .val (.int (x1 &&& (3 : Int32))), .val (.int c0), .val (.int c1), .val (.int c2), .val (.int c3)]) (S' := []) rfl ?_
          refine b_goto C P7 (o := 39) (by decide +kernel) (pc' := 419) (by decide) ?_
          exact t419_f1c l wd x0 x1 x2 x3 pf ur nsp (h.size) c0 c1 c2 c3 C (P7.more (k' := 11) (n' := 214) (le_ _ _ rfl) (le_ _ _ rfl)) hu0 (A.ext (exK (exK (exK (exK (exK (exT E1 E2) K3 (E1).1) K4 (E1).1) K5 (E1).1) K6 (E1).1) K7 (Nat.le_refl _))) (G.ext (exK (exK (exK (exK (exK (exT E1 E2) K3 (E1).1) K4 (E1).1) K5 (E1).1) K6 (E1).1) K7 (Nat.le_refl _))) (S.ext (exK (exK (exK (exK (exK (exT E1 E2) K3 (E1).1) K4 (E1).1) K5 (E1).1) K6 (E1).1) K7 (Nat.le_refl _))) hu ((show [c0, c1, c2, c3] = (txt 88) by rw [q9, q10, q11, q12]; decide +kernel) ▸ S7)
set_option maxRecDepth 65536 in
set_option maxHeartbeats 4000000 in
theorem t289_f (l : Launch) {Z : State} {a0 : Array Value} {n0 : Nat} {h : Heap} {z : Int32} {kX uX kD uD : Addr} {dl : List Int32} (wd : Wd Z a0 z kX uX kD uD dl) (x0 x1 x2 x3 : Int32) (pf ur nsp : Addr) (c0 c1 c2 : Int32) {us : List Int32} {p : Program} {e : Env} {s : State} {m : MethodId} {args : Array Value} {below : List Frame} {meth : Method} {c : Code} {T : State} (C : Ctx Z a0 consts_1 p s m meth c "com/example/archive_packager/archivepackager/dc/AttributeIsTypePinLaw" "law" code 16 (some .boolean)) (P : Pos Z consts_1 n0 p l e room_1 s m args below meth c T h 7 190) (hu0 : ¬ (x0 &&& (7 : Int32)) = 0) (A : Exa Z h nsp "com/example/archive_packager/archivepackager/xml/Namespace") (G : Fld Z h nsp "com/example/archive_packager/archivepackager/xml/Namespace" "uri" "Ljava/lang/String;" (.ref ur)) (S : Str Z h ur us) (hu : ¬ us = (txt 84)) (l0 : ¬ c0 < 0 ∧ ¬ (255 : Int32) < c0) (i0 : c16 c0 = c0) (l1 : ¬ c1 < 0 ∧ ¬ (255 : Int32) < c1) (i1 : c16 c1 = c1) (l2 : ¬ c2 < 0 ∧ ¬ (255 : Int32) < c2) (i2 : c16 c2 = c2) :
    Jvm.Own.Run p.tables e below (Jvm.Own.Ends Z consts_1 n0 room_1 below (Ret1 fun v h' => v = .int 1) s) T (fr m 289 [.val (.int x0), .val (.int x1), .val (.int x2), .val (.int x3), .val (.int (x0 &&& (7 : Int32))), .val (.ref pf), .val (.ref ur), .val (.ref nsp), .val (.int (0 : Int32)), .unset, .unset, .val (.int (x1 &&& (3 : Int32))), .val (.int c0), .val (.int c1), .val (.int c2), .unset] []) := by
  obtain ⟨hw, hEL, Sz, hz, YX, XX, GX, SX, YD, XD, GD, SDt, hdl⟩ := id wd
  refine blk C P [.iload_n 1, .iconst 5, .ishr, .iconst 1, .iand] (by decide +kernel) (pc' := 294) (L' := [.val (.int x0), .val (.int x1), .val (.int x2), .val (.int x3), .val (.int (x0 &&& (7 : Int32))), .val (.ref pf), .val (.ref ur), .val (.ref nsp), .val (.int (0 : Int32)), .unset, .unset, .val (.int (x1 &&& (3 : Int32))), .val (.int c0), .val (.int c1), .val (.int c2), .unset]) (S' := [.int ((x1 >>> ((5 : Int32) &&& 31)) &&& (1 : Int32))]) rfl ?_
  refine b_if C P (cd := .eq) (o := 8) (by decide +kernel) (pc' := 302) (by decide) (pn := 297) rfl (fun (q1 : ((x1 >>> ((5 : Int32) &&& 31)) &&& (1 : Int32)) = 0) => ?_) (fun (q1 : ¬ ((x1 >>> ((5 : Int32) &&& 31)) &&& (1 : Int32)) = 0) => ?_)
  · skip
    refine blk C P [.iload_n 2, .bipush 24, .ishr, .sipush 255, .iand, .i2c, .istore 15] (by decide +kernel) (pc' := 313) (L' := [.val (.int x0), .val (.int x1), .val (.int x2), .val (.int x3), .val (.int (x0 &&& (7 : Int32))), .val (.ref pf), .val (.ref ur), .val (.ref nsp), .val (.int (0 : Int32)), .unset, .unset, .val (.int (x1 &&& (3 : Int32))), .val (.int c0), .val (.int c1), .val (.int c2), .val (.int (c16 ((x2 >>> ((24 : Int32) &&& 31)) &&& (255 : Int32))))]) (S' := []) rfl ?_
    exact t313_f l wd x0 x1 x2 x3 pf ur nsp c0 c1 c2 (c16 ((x2 >>> ((24 : Int32) &&& 31)) &&& (255 : Int32))) C (P.more (k' := 7) (n' := 190) (le_ _ _ rfl) (le_ _ _ rfl)) hu0 A G S hu l0 i0 l1 i1 l2 i2 latv (c16_idem _)
  · skip
    refine blk C P [.bipush 101] (by decide +kernel) (pc' := 299) (L' := [.val (.int x0), .val (.int x1), .val (.int x2), .val (.int x3), .val (.int (x0 &&& (7 : Int32))), .val (.ref pf), .val (.ref ur), .val (.ref nsp), .val (.int (0 : Int32)), .unset, .unset, .val (.int (x1 &&& (3 : Int32))), .val (.int c0), .val (.int c1), .val (.int c2), .unset]) (S' := [.int (101 : Int32)]) rfl ?_
    refine b_goto C P (o := 12) (by decide +kernel) (pc' := 311) (by decide) ?_
    refine blk C P [.istore 15] (by decide +kernel) (pc' := 313) (L' := [.val (.int x0), .val (.int x1), .val (.int x2), .val (.int x3), .val (.int (x0 &&& (7 : Int32))), .val (.ref pf), .val (.ref ur), .val (.ref nsp), .val (.int (0 : Int32)), .unset, .unset, .val (.int (x1 &&& (3 : Int32))), .val (.int c0), .val (.int c1), .val (.int c2), .val (.int (101 : Int32))]) (S' := []) rfl ?_
    exact t313_f l wd x0 x1 x2 x3 pf ur nsp c0 c1 c2 (101 : Int32) C (P.more (k' := 7) (n' := 190) (le_ _ _ rfl) (le_ _ _ rfl)) hu0 A G S hu l0 i0 l1 i1 l2 i2 (by decide) (by decide)
set_option maxRecDepth 65536 in
set_option maxHeartbeats 4000000 in
theorem t265_f (l : Launch) {Z : State} {a0 : Array Value} {n0 : Nat} {h : Heap} {z : Int32} {kX uX kD uD : Addr} {dl : List Int32} (wd : Wd Z a0 z kX uX kD uD dl) (x0 x1 x2 x3 : Int32) (pf ur nsp : Addr) (c0 c1 : Int32) {us : List Int32} {p : Program} {e : Env} {s : State} {m : MethodId} {args : Array Value} {below : List Frame} {meth : Method} {c : Code} {T : State} (C : Ctx Z a0 consts_1 p s m meth c "com/example/archive_packager/archivepackager/dc/AttributeIsTypePinLaw" "law" code 16 (some .boolean)) (P : Pos Z consts_1 n0 p l e room_1 s m args below meth c T h 7 190) (hu0 : ¬ (x0 &&& (7 : Int32)) = 0) (A : Exa Z h nsp "com/example/archive_packager/archivepackager/xml/Namespace") (G : Fld Z h nsp "com/example/archive_packager/archivepackager/xml/Namespace" "uri" "Ljava/lang/String;" (.ref ur)) (S : Str Z h ur us) (hu : ¬ us = (txt 84)) (l0 : ¬ c0 < 0 ∧ ¬ (255 : Int32) < c0) (i0 : c16 c0 = c0) (l1 : ¬ c1 < 0 ∧ ¬ (255 : Int32) < c1) (i1 : c16 c1 = c1) :
    Jvm.Own.Run p.tables e below (Jvm.Own.Ends Z consts_1 n0 room_1 below (Ret1 fun v h' => v = .int 1) s) T (fr m 265 [.val (.int x0), .val (.int x1), .val (.int x2), .val (.int x3), .val (.int (x0 &&& (7 : Int32))), .val (.ref pf), .val (.ref ur), .val (.ref nsp), .val (.int (0 : Int32)), .unset, .unset, .val (.int (x1 &&& (3 : Int32))), .val (.int c0), .val (.int c1), .unset, .unset] []) := by
  obtain ⟨hw, hEL, Sz, hz, YX, XX, GX, SX, YD, XD, GD, SDt, hdl⟩ := id wd
  refine blk C P [.iload_n 1, .iconst 4, .ishr, .iconst 1, .iand] (by decide +kernel) (pc' := 270) (L' := [.val (.int x0), .val (.int x1), .val (.int x2), .val (.int x3), .val (.int (x0 &&& (7 : Int32))), .val (.ref pf), .val (.ref ur), .val (.ref nsp), .val (.int (0 : Int32)), .unset, .unset, .val (.int (x1 &&& (3 : Int32))), .val (.int c0), .val (.int c1), .unset, .unset]) (S' := [.int ((x1 >>> ((4 : Int32) &&& 31)) &&& (1 : Int32))]) rfl ?_
  refine b_if C P (cd := .eq) (o := 8) (by decide +kernel) (pc' := 278) (by decide) (pn := 273) rfl (fun (q1 : ((x1 >>> ((4 : Int32) &&& 31)) &&& (1 : Int32)) = 0) => ?_) (fun (q1 : ¬ ((x1 >>> ((4 : Int32) &&& 31)) &&& (1 : Int32)) = 0) => ?_)
  · skip
    refine blk C P [.iload_n 2, .bipush 16, .ishr, .sipush 255, .iand, .i2c, .istore 14] (by decide +kernel) (pc' := 289) (L' := [.val (.int x0), .val (.int x1), .val (.int x2), .val (.int x3), .val (.int (x0 &&& (7 : Int32))), .val (.ref pf), .val (.ref ur), .val (.ref nsp), .val (.int (0 : Int32)), .unset, .unset, .val (.int (x1 &&& (3 : Int32))), .val (.int c0), .val (.int c1), .val (.int (c16 ((x2 >>> ((16 : Int32) &&& 31)) &&& (255 : Int32)))), .unset]) (S' := []) rfl ?_
    exact t289_f l wd x0 x1 x2 x3 pf ur nsp c0 c1 (c16 ((x2 >>> ((16 : Int32) &&& 31)) &&& (255 : Int32))) C (P.more (k' := 7) (n' := 190) (le_ _ _ rfl) (le_ _ _ rfl)) hu0 A G S hu l0 i0 l1 i1 latv (c16_idem _)
  · skip
    refine blk C P [.bipush 112] (by decide +kernel) (pc' := 275) (L' := [.val (.int x0), .val (.int x1), .val (.int x2), .val (.int x3), .val (.int (x0 &&& (7 : Int32))), .val (.ref pf), .val (.ref ur), .val (.ref nsp), .val (.int (0 : Int32)), .unset, .unset, .val (.int (x1 &&& (3 : Int32))), .val (.int c0), .val (.int c1), .unset, .unset]) (S' := [.int (112 : Int32)]) rfl ?_
    refine b_goto C P (o := 12) (by decide +kernel) (pc' := 287) (by decide) ?_
    refine blk C P [.istore 14] (by decide +kernel) (pc' := 289) (L' := [.val (.int x0), .val (.int x1), .val (.int x2), .val (.int x3), .val (.int (x0 &&& (7 : Int32))), .val (.ref pf), .val (.ref ur), .val (.ref nsp), .val (.int (0 : Int32)), .unset, .unset, .val (.int (x1 &&& (3 : Int32))), .val (.int c0), .val (.int c1), .val (.int (112 : Int32)), .unset]) (S' := []) rfl ?_
    exact t289_f l wd x0 x1 x2 x3 pf ur nsp c0 c1 (112 : Int32) C (P.more (k' := 7) (n' := 190) (le_ _ _ rfl) (le_ _ _ rfl)) hu0 A G S hu l0 i0 l1 i1 (by decide) (by decide)
set_option maxRecDepth 65536 in
set_option maxHeartbeats 4000000 in
theorem t241_f (l : Launch) {Z : State} {a0 : Array Value} {n0 : Nat} {h : Heap} {z : Int32} {kX uX kD uD : Addr} {dl : List Int32} (wd : Wd Z a0 z kX uX kD uD dl) (x0 x1 x2 x3 : Int32) (pf ur nsp : Addr) (c0 : Int32) {us : List Int32} {p : Program} {e : Env} {s : State} {m : MethodId} {args : Array Value} {below : List Frame} {meth : Method} {c : Code} {T : State} (C : Ctx Z a0 consts_1 p s m meth c "com/example/archive_packager/archivepackager/dc/AttributeIsTypePinLaw" "law" code 16 (some .boolean)) (P : Pos Z consts_1 n0 p l e room_1 s m args below meth c T h 7 190) (hu0 : ¬ (x0 &&& (7 : Int32)) = 0) (A : Exa Z h nsp "com/example/archive_packager/archivepackager/xml/Namespace") (G : Fld Z h nsp "com/example/archive_packager/archivepackager/xml/Namespace" "uri" "Ljava/lang/String;" (.ref ur)) (S : Str Z h ur us) (hu : ¬ us = (txt 84)) (l0 : ¬ c0 < 0 ∧ ¬ (255 : Int32) < c0) (i0 : c16 c0 = c0) :
    Jvm.Own.Run p.tables e below (Jvm.Own.Ends Z consts_1 n0 room_1 below (Ret1 fun v h' => v = .int 1) s) T (fr m 241 [.val (.int x0), .val (.int x1), .val (.int x2), .val (.int x3), .val (.int (x0 &&& (7 : Int32))), .val (.ref pf), .val (.ref ur), .val (.ref nsp), .val (.int (0 : Int32)), .unset, .unset, .val (.int (x1 &&& (3 : Int32))), .val (.int c0), .unset, .unset, .unset] []) := by
  obtain ⟨hw, hEL, Sz, hz, YX, XX, GX, SX, YD, XD, GD, SDt, hdl⟩ := id wd
  refine blk C P [.iload_n 1, .iconst 3, .ishr, .iconst 1, .iand] (by decide +kernel) (pc' := 246) (L' := [.val (.int x0), .val (.int x1), .val (.int x2), .val (.int x3), .val (.int (x0 &&& (7 : Int32))), .val (.ref pf), .val (.ref ur), .val (.ref nsp), .val (.int (0 : Int32)), .unset, .unset, .val (.int (x1 &&& (3 : Int32))), .val (.int c0), .unset, .unset, .unset]) (S' := [.int ((x1 >>> ((3 : Int32) &&& 31)) &&& (1 : Int32))]) rfl ?_
  refine b_if C P (cd := .eq) (o := 8) (by decide +kernel) (pc' := 254) (by decide) (pn := 249) rfl (fun (q1 : ((x1 >>> ((3 : Int32) &&& 31)) &&& (1 : Int32)) = 0) => ?_) (fun (q1 : ¬ ((x1 >>> ((3 : Int32) &&& 31)) &&& (1 : Int32)) = 0) => ?_)
  · skip
    refine blk C P [.iload_n 2, .bipush 8, .ishr, .sipush 255, .iand, .i2c, .istore 13] (by decide +kernel) (pc' := 265) (L' := [.val (.int x0), .val (.int x1), .val (.int x2), .val (.int x3), .val (.int (x0 &&& (7 : Int32))), .val (.ref pf), .val (.ref ur), .val (.ref nsp), .val (.int (0 : Int32)), .unset, .unset, .val (.int (x1 &&& (3 : Int32))), .val (.int c0), .val (.int (c16 ((x2 >>> ((8 : Int32) &&& 31)) &&& (255 : Int32)))), .unset, .unset]) (S' := []) rfl ?_
    exact t265_f l wd x0 x1 x2 x3 pf ur nsp c0 (c16 ((x2 >>> ((8 : Int32) &&& 31)) &&& (255 : Int32))) C (P.more (k' := 7) (n' := 190) (le_ _ _ rfl) (le_ _ _ rfl)) hu0 A G S hu l0 i0 latv (c16_idem _)
  · skip
    refine blk C P [.bipush 121] (by decide +kernel) (pc' := 251) (L' := [.val (.int x0), .val (.int x1), .val (.int x2), .val (.int x3), .val (.int (x0 &&& (7 : Int32))), .val (.ref pf), .val (.ref ur), .val (.ref nsp), .val (.int (0 : Int32)), .unset, .unset, .val (.int (x1 &&& (3 : Int32))), .val (.int c0), .unset, .unset, .unset]) (S' := [.int (121 : Int32)]) rfl ?_
    refine b_goto C P (o := 12) (by decide +kernel) (pc' := 263) (by decide) ?_
    refine blk C P [.istore 13] (by decide +kernel) (pc' := 265) (L' := [.val (.int x0), .val (.int x1), .val (.int x2), .val (.int x3), .val (.int (x0 &&& (7 : Int32))), .val (.ref pf), .val (.ref ur), .val (.ref nsp), .val (.int (0 : Int32)), .unset, .unset, .val (.int (x1 &&& (3 : Int32))), .val (.int c0), .val (.int (121 : Int32)), .unset, .unset]) (S' := []) rfl ?_
    exact t265_f l wd x0 x1 x2 x3 pf ur nsp c0 (121 : Int32) C (P.more (k' := 7) (n' := 190) (le_ _ _ rfl) (le_ _ _ rfl)) hu0 A G S hu l0 i0 (by decide) (by decide)
set_option maxRecDepth 65536 in
set_option maxHeartbeats 4000000 in
theorem t194_f (l : Launch) {Z : State} {a0 : Array Value} {n0 : Nat} {h : Heap} {z : Int32} {kX uX kD uD : Addr} {dl : List Int32} (wd : Wd Z a0 z kX uX kD uD dl) (x0 x1 x2 x3 : Int32) (pf ur nsp : Addr) {us : List Int32} {p : Program} {e : Env} {s : State} {m : MethodId} {args : Array Value} {below : List Frame} {meth : Method} {c : Code} {T : State} (C : Ctx Z a0 consts_1 p s m meth c "com/example/archive_packager/archivepackager/dc/AttributeIsTypePinLaw" "law" code 16 (some .boolean)) (P : Pos Z consts_1 n0 p l e room_1 s m args below meth c T h 7 190) (hu0 : ¬ (x0 &&& (7 : Int32)) = 0) (A : Exa Z h nsp "com/example/archive_packager/archivepackager/xml/Namespace") (G : Fld Z h nsp "com/example/archive_packager/archivepackager/xml/Namespace" "uri" "Ljava/lang/String;" (.ref ur)) (S : Str Z h ur us) (hu : ¬ us = (txt 84)) :
    Jvm.Own.Run p.tables e below (Jvm.Own.Ends Z consts_1 n0 room_1 below (Ret1 fun v h' => v = .int 1) s) T (fr m 194 [.val (.int x0), .val (.int x1), .val (.int x2), .val (.int x3), .val (.int (x0 &&& (7 : Int32))), .val (.ref pf), .val (.ref ur), .val (.ref nsp), .val (.int (0 : Int32)), .unset, .unset, .unset, .unset, .unset, .unset, .unset] []) := by
  obtain ⟨hw, hEL, Sz, hz, YX, XX, GX, SX, YD, XD, GD, SDt, hdl⟩ := id wd
  have wS : ∀ a ∈ Bundle.stringAtoms, a.before a0 Z = true := fun d hd => hw d ((by decide +kernel : ∀ d ∈ Bundle.stringAtoms, d ∈ tables_1) d hd)
  refine blk C P [.iload_n 1, .iconst 3, .iand, .istore 11, .iload 11] (by decide +kernel) (pc' := 201) (L' := [.val (.int x0), .val (.int x1), .val (.int x2), .val (.int x3), .val (.int (x0 &&& (7 : Int32))), .val (.ref pf), .val (.ref ur), .val (.ref nsp), .val (.int (0 : Int32)), .unset, .unset, .val (.int (x1 &&& (3 : Int32))), .unset, .unset, .unset, .unset]) (S' := [.int (x1 &&& (3 : Int32))]) rfl ?_
  refine b_if C P (cd := .ne) (o := 13) (by decide +kernel) (pc' := 214) (by decide) (pn := 204) rfl (fun (q1 : ¬ (x1 &&& (3 : Int32)) = 0) => ?_) (fun (q1 : (x1 &&& (3 : Int32)) = 0) => ?_)
  · skip
    refine blk C P [.iload 11, .iconst 1] (by decide +kernel) (pc' := 217) (L' := [.val (.int x0), .val (.int x1), .val (.int x2), .val (.int x3), .val (.int (x0 &&& (7 : Int32))), .val (.ref pf), .val (.ref ur), .val (.ref nsp), .val (.int (0 : Int32)), .unset, .unset, .val (.int (x1 &&& (3 : Int32))), .unset, .unset, .unset, .unset]) (S' := [.int (1 : Int32), .int (x1 &&& (3 : Int32))]) rfl ?_
    refine b_cm C P (cd := .ne) (o := 166) (by decide +kernel) (pc' := 383) (by decide) (pn := 220) rfl (fun (q2 : ¬ (x1 &&& (3 : Int32)) = (1 : Int32)) => ?_) (fun (q2 : (x1 &&& (3 : Int32)) = (1 : Int32)) => ?_)
    · skip
      refine blk C P [.iload 11, .iconst 2] (by decide +kernel) (pc' := 386) (L' := [.val (.int x0), .val (.int x1), .val (.int x2), .val (.int x3), .val (.int (x0 &&& (7 : Int32))), .val (.ref pf), .val (.ref ur), .val (.ref nsp), .val (.int (0 : Int32)), .unset, .unset, .val (.int (x1 &&& (3 : Int32))), .unset, .unset, .unset, .unset]) (S' := [.int (2 : Int32), .int (x1 &&& (3 : Int32))]) rfl ?_
      refine b_cm C P (cd := .ne) (o := 13) (by decide +kernel) (pc' := 399) (by decide) (pn := 389) rfl (fun (q3 : ¬ (x1 &&& (3 : Int32)) = (2 : Int32)) => ?_) (fun (q3 : (x1 &&& (3 : Int32)) = (2 : Int32)) => ?_)
      · skip
        refine blk C P [.iload_n 1, .iconst 2, .ishr, .iconst 1, .iand] (by decide +kernel) (pc' := 404) (L' := [.val (.int x0), .val (.int x1), .val (.int x2), .val (.int x3), .val (.int (x0 &&& (7 : Int32))), .val (.ref pf), .val (.ref ur), .val (.ref nsp), .val (.int (0 : Int32)), .unset, .unset, .val (.int (x1 &&& (3 : Int32))), .unset, .unset, .unset, .unset]) (S' := [.int ((x1 >>> ((2 : Int32) &&& 31)) &&& (1 : Int32))]) rfl ?_
        refine b_if C P (cd := .eq) (o := 8) (by decide +kernel) (pc' := 412) (by decide) (pn := 407) rfl (fun (q4 : ((x1 >>> ((2 : Int32) &&& 31)) &&& (1 : Int32)) = 0) => ?_) (fun (q4 : ¬ ((x1 >>> ((2 : Int32) &&& 31)) &&& (1 : Int32)) = 0) => ?_)
        · skip
          refine s_ldc C P (idx := 48) (txt 29) (by decide +kernel) (hw _ (List.mem_of_getElem? (i := 29) rfl)) wS (by decide +kernel) (by decide +kernel) (by decide +kernel) (by decide +kernel) (len := 20) (by decide) (by decide) (le_ _ _ rfl) (le_ _ _ rfl) (pc' := 414) rfl (fun T5 h5 a5 P5 E5 S5 => ?_)
          replace P5 := P5.more (k' := 9) (n' := 214) (le_ _ _ rfl) (le_ _ _ rfl)
          refine blk C P5 [.astore 9, .iconst 0, .istore 10] (by decide +kernel) (pc' := 419) (L' := [.val (.int x0), .val (.int x1), .val (.int x2), .val (.int x3), .val (.int (x0 &&& (7 : Int32))), .val (.ref pf), .val (.ref ur), .val (.ref nsp), .val (.int (0 : Int32)), .val (.ref a5), .val (.int (0 : Int32)), .val (.int (x1 &&& (3 : Int32))), .unset, .unset, .unset, .unset]) (S' := []) rfl ?_
          exact t419_f0u l wd x0 x1 x2 x3 pf ur nsp a5 C (P5.more (k' := 11) (n' := 214) (le_ _ _ rfl) (le_ _ _ rfl)) hu0 (A.ext E5) (G.ext E5) (S.ext E5) hu S5 (by decide +kernel)
        · skip
          refine s_ldc C P (idx := 46) (txt 83) (by decide +kernel) (hw _ (List.mem_of_getElem? (i := 83) rfl)) wS (by decide +kernel) (by decide +kernel) (by decide +kernel) (by decide +kernel) (len := 12) (by decide) (by decide) (le_ _ _ rfl) (le_ _ _ rfl) (pc' := 409) rfl (fun T6 h6 a6 P6 E6 S6 => ?_)
          replace P6 := P6.more (k' := 9) (n' := 206) (le_ _ _ rfl) (le_ _ _ rfl)
          refine b_goto C P6 (o := 5) (by decide +kernel) (pc' := 414) (by decide) ?_
          refine blk C P6 [.astore 9, .iconst 0, .istore 10] (by decide +kernel) (pc' := 419) (L' := [.val (.int x0), .val (.int x1), .val (.int x2), .val (.int x3), .val (.int (x0 &&& (7 : Int32))), .val (.ref pf), .val (.ref ur), .val (.ref nsp), .val (.int (0 : Int32)), .val (.ref a6), .val (.int (0 : Int32)), .val (.int (x1 &&& (3 : Int32))), .unset, .unset, .unset, .unset]) (S' := []) rfl ?_
          exact t419_f0u l wd x0 x1 x2 x3 pf ur nsp a6 C (P6.more (k' := 11) (n' := 214) (le_ _ _ rfl) (le_ _ _ rfl)) hu0 (A.ext E6) (G.ext E6) (S.ext E6) hu S6 (by decide +kernel)
      · skip
        refine s_ldc C P (idx := 44) (txt 85) (by decide +kernel) (hw _ (List.mem_of_getElem? (i := 85) rfl)) wS (by decide +kernel) (by decide +kernel) (by decide +kernel) (by decide +kernel) (len := 16) (by decide) (by decide) (le_ _ _ rfl) (le_ _ _ rfl) (pc' := 391) rfl (fun T7 h7 a7 P7 E7 S7 => ?_)
        replace P7 := P7.more (k' := 9) (n' := 210) (le_ _ _ rfl) (le_ _ _ rfl)
        refine blk C P7 [.astore 9, .iconst 0, .istore 10] (by decide +kernel) (pc' := 396) (L' := [.val (.int x0), .val (.int x1), .val (.int x2), .val (.int x3), .val (.int (x0 &&& (7 : Int32))), .val (.ref pf), .val (.ref ur), .val (.ref nsp), .val (.int (0 : Int32)), .val (.ref a7), .val (.int (0 : Int32)), .val (.int (x1 &&& (3 : Int32))), .unset, .unset, .unset, .unset]) (S' := []) rfl ?_
        refine b_goto C P7 (o := 23) (by decide +kernel) (pc' := 419) (by decide) ?_
        exact t419_f0u l wd x0 x1 x2 x3 pf ur nsp a7 C (P7.more (k' := 11) (n' := 214) (le_ _ _ rfl) (le_ _ _ rfl)) hu0 (A.ext E7) (G.ext E7) (S.ext E7) hu S7 (by decide +kernel)
    · skip
      refine blk C P [.iload_n 1, .iconst 2, .ishr, .iconst 1, .iand] (by decide +kernel) (pc' := 225) (L' := [.val (.int x0), .val (.int x1), .val (.int x2), .val (.int x3), .val (.int (x0 &&& (7 : Int32))), .val (.ref pf), .val (.ref ur), .val (.ref nsp), .val (.int (0 : Int32)), .unset, .unset, .val (.int (x1 &&& (3 : Int32))), .unset, .unset, .unset, .unset]) (S' := [.int ((x1 >>> ((2 : Int32) &&& 31)) &&& (1 : Int32))]) rfl ?_
      refine b_if C P (cd := .eq) (o := 8) (by decide +kernel) (pc' := 233) (by decide) (pn := 228) rfl (fun (q8 : ((x1 >>> ((2 : Int32) &&& 31)) &&& (1 : Int32)) = 0) => ?_) (fun (q8 : ¬ ((x1 >>> ((2 : Int32) &&& 31)) &&& (1 : Int32)) = 0) => ?_)
      · skip
        refine blk C P [.iload_n 2, .sipush 255, .iand, .i2c, .istore 12] (by decide +kernel) (pc' := 241) (L' := [.val (.int x0), .val (.int x1), .val (.int x2), .val (.int x3), .val (.int (x0 &&& (7 : Int32))), .val (.ref pf), .val (.ref ur), .val (.ref nsp), .val (.int (0 : Int32)), .unset, .unset, .val (.int (x1 &&& (3 : Int32))), .val (.int (c16 (x2 &&& (255 : Int32)))), .unset, .unset, .unset]) (S' := []) rfl ?_
        exact t241_f l wd x0 x1 x2 x3 pf ur nsp (c16 (x2 &&& (255 : Int32))) C (P.more (k' := 7) (n' := 190) (le_ _ _ rfl) (le_ _ _ rfl)) hu0 A G S hu latv (c16_idem _)
      · skip
        refine blk C P [.bipush 116] (by decide +kernel) (pc' := 230) (L' := [.val (.int x0), .val (.int x1), .val (.int x2), .val (.int x3), .val (.int (x0 &&& (7 : Int32))), .val (.ref pf), .val (.ref ur), .val (.ref nsp), .val (.int (0 : Int32)), .unset, .unset, .val (.int (x1 &&& (3 : Int32))), .unset, .unset, .unset, .unset]) (S' := [.int (116 : Int32)]) rfl ?_
        refine b_goto C P (o := 9) (by decide +kernel) (pc' := 239) (by decide) ?_
        refine blk C P [.istore 12] (by decide +kernel) (pc' := 241) (L' := [.val (.int x0), .val (.int x1), .val (.int x2), .val (.int x3), .val (.int (x0 &&& (7 : Int32))), .val (.ref pf), .val (.ref ur), .val (.ref nsp), .val (.int (0 : Int32)), .unset, .unset, .val (.int (x1 &&& (3 : Int32))), .val (.int (116 : Int32)), .unset, .unset, .unset]) (S' := []) rfl ?_
        exact t241_f l wd x0 x1 x2 x3 pf ur nsp (116 : Int32) C (P.more (k' := 7) (n' := 190) (le_ _ _ rfl) (le_ _ _ rfl)) hu0 A G S hu (by decide) (by decide)
  · skip
    refine s_ldc C P (idx := 42) (txt 86) (by decide +kernel) (hw _ (List.mem_of_getElem? (i := 86) rfl)) wS (by decide +kernel) (by decide +kernel) (by decide +kernel) (by decide +kernel) (len := 16) (by decide) (by decide) (le_ _ _ rfl) (le_ _ _ rfl) (pc' := 206) rfl (fun T9 h9 a9 P9 E9 S9 => ?_)
    replace P9 := P9.more (k' := 9) (n' := 210) (le_ _ _ rfl) (le_ _ _ rfl)
    refine blk C P9 [.astore 9, .iconst 1, .istore 10] (by decide +kernel) (pc' := 211) (L' := [.val (.int x0), .val (.int x1), .val (.int x2), .val (.int x3), .val (.int (x0 &&& (7 : Int32))), .val (.ref pf), .val (.ref ur), .val (.ref nsp), .val (.int (0 : Int32)), .val (.ref a9), .val (.int (1 : Int32)), .val (.int (x1 &&& (3 : Int32))), .unset, .unset, .unset, .unset]) (S' := []) rfl ?_
    refine b_goto C P9 (o := 208) (by decide +kernel) (pc' := 419) (by decide) ?_
    exact t419_f1u l wd x0 x1 x2 x3 pf ur nsp a9 C (P9.more (k' := 11) (n' := 214) (le_ _ _ rfl) (le_ _ _ rfl)) hu0 (A.ext E9) (G.ext E9) (S.ext E9) hu ((by decide +kernel : (txt 86) = (txt 88)) ▸ S9)
set_option maxRecDepth 65536 in
set_option maxHeartbeats 4000000 in
theorem t153 (l : Launch) {Z : State} {a0 : Array Value} {n0 : Nat} {h : Heap} {z : Int32} {kX uX kD uD : Addr} {dl : List Int32} (wd : Wd Z a0 z kX uX kD uD dl) (x0 x1 x2 x3 : Int32) (pf ur : Addr) {us : List Int32} {p : Program} {e : Env} {s : State} {m : MethodId} {args : Array Value} {below : List Frame} {meth : Method} {c : Code} {T : State} (C : Ctx Z a0 consts_1 p s m meth c "com/example/archive_packager/archivepackager/dc/AttributeIsTypePinLaw" "law" code 16 (some .boolean)) (P : Pos Z consts_1 n0 p l e room_1 s m args below meth c T h 6 188) (S : Str Z h ur us) (hU : us = (txt 84) ↔ ((x0 &&& (7 : Int32)) = 1 ∨ (x0 &&& (7 : Int32)) = 2)) :
    Jvm.Own.Run p.tables e below (Jvm.Own.Ends Z consts_1 n0 room_1 below (Ret1 fun v h' => v = .int 1) s) T (fr m 153 [.val (.int x0), .val (.int x1), .val (.int x2), .val (.int x3), .val (.int (x0 &&& (7 : Int32))), .val (.ref pf), .val (.ref ur), .unset, .unset, .unset, .unset, .unset, .unset, .unset, .unset, .unset] []) := by
  obtain ⟨hw, hEL, Sz, hz, YX, XX, GX, SX, YD, XD, GD, SDt, hdl⟩ := id wd
  refine blk C P [.iload 4] (by decide +kernel) (pc' := 155) (L' := [.val (.int x0), .val (.int x1), .val (.int x2), .val (.int x3), .val (.int (x0 &&& (7 : Int32))), .val (.ref pf), .val (.ref ur), .unset, .unset, .unset, .unset, .unset, .unset, .unset, .unset, .unset]) (S' := [.int (x0 &&& (7 : Int32))]) rfl ?_
  refine b_if C P (cd := .ne) (o := 7) (by decide +kernel) (pc' := 162) (by decide) (pn := 158) rfl (fun (q1 : ¬ (x0 &&& (7 : Int32)) = 0) => ?_) (fun (q1 : (x0 &&& (7 : Int32)) = 0) => ?_)
  · skip
    refine s_new C P (idx := 16) (by decide +kernel) (hw _ (List.mem_of_getElem? (i := 57) rfl)) (hw _ (List.mem_of_getElem? (i := 58) rfl)) (hw _ (List.mem_of_getElem? (i := 59) rfl)) (le_ _ _ rfl) (le_ _ _ rfl) (pc' := 165) rfl (fun T2 h2 P2 E2 B2 => ?_)
    replace P2 := P2.more (k' := 7) (n' := 190) (le_ _ _ rfl) (le_ _ _ rfl)
    refine blk C P2 [.dup, .aload 5, .aload 6] (by decide +kernel) (pc' := 170) (L' := [.val (.int x0), .val (.int x1), .val (.int x2), .val (.int x3), .val (.int (x0 &&& (7 : Int32))), .val (.ref pf), .val (.ref ur), .unset, .unset, .unset, .unset, .unset, .unset, .unset, .unset, .unset]) (S' := [.ref ur, .ref pf, .ref h.size, .ref h.size]) rfl ?_
    refine c_special C P2 (idx := 39) (y := (⟨"com/example/archive_packager/archivepackager/xml/Namespace", "<init>", "(Ljava/lang/String;Ljava/lang/String;)V"⟩ : MethodName)) (ybytes := prog_104_method_1_code) (ymax := 3) (yrm := ({ frames := 2, cells := 0, slots := 0, locals := 24 } : Room)) rfl (by decide +kernel) (hw _ (List.mem_of_getElem? (i := 60) rfl)) (hw _ (List.mem_of_getElem? (i := 61) rfl)) (hw _ (List.mem_of_getElem? (i := 59) rfl)) (hw _ (List.mem_of_getElem? (i := 62) rfl)) (by decide) [.ref pf, .ref ur] [.ref h.size] (k_ns l wd (h.size) pf ur P2.old B2) (le_ _ _ rfl) (W := 1) (le_ _ _ rfl) (by decide +kernel : parseMethodDescriptor "(Ljava/lang/String;Ljava/lang/String;)V" = some ⟨[(.object "java/lang/String"), (.object "java/lang/String")], none⟩) rfl rfl rfl (le_ _ _ rfl) (le_ _ _ rfl) (le_ _ _ rfl) (pc' := 173) rfl (fun T3 h3 P3 Q3 => ?_)
    replace P3 := P3.more (k' := 7) (n' := 190) (le_ _ _ rfl) (le_ _ _ rfl)
    obtain ⟨K3, A3, F3_0⟩ := Q3
    refine blk C P3 [.astore 7, .iload 4, .iconst 1] (by decide +kernel) (pc' := 178) (L' := [.val (.int x0), .val (.int x1), .val (.int x2), .val (.int x3), .val (.int (x0 &&& (7 : Int32))), .val (.ref pf), .val (.ref ur), .val (.ref h.size), .unset, .unset, .unset, .unset, .unset, .unset, .unset, .unset]) (S' := [.int (1 : Int32), .int (x0 &&& (7 : Int32))]) rfl ?_
    refine b_cm C P3 (cd := .eq) (o := 9) (by decide +kernel) (pc' := 187) (by decide) (pn := 181) rfl (fun (q4 : (x0 &&& (7 : Int32)) = (1 : Int32)) => ?_) (fun (q4 : ¬ (x0 &&& (7 : Int32)) = (1 : Int32)) => ?_)
    · skip
      refine blk C P3 [.iconst 1] (by decide +kernel) (pc' := 188) (L' := [.val (.int x0), .val (.int x1), .val (.int x2), .val (.int x3), .val (.int (x0 &&& (7 : Int32))), .val (.ref pf), .val (.ref ur), .val (.ref h.size), .unset, .unset, .unset, .unset, .unset, .unset, .unset, .unset]) (S' := [.int (1 : Int32)]) rfl ?_
      refine b_goto C P3 (o := 4) (by decide +kernel) (pc' := 192) (by decide) ?_
      refine blk C P3 [.istore 8] (by decide +kernel) (pc' := 194) (L' := [.val (.int x0), .val (.int x1), .val (.int x2), .val (.int x3), .val (.int (x0 &&& (7 : Int32))), .val (.ref pf), .val (.ref ur), .val (.ref h.size), .val (.int (1 : Int32)), .unset, .unset, .unset, .unset, .unset, .unset, .unset]) (S' := []) rfl ?_
      exact t194_t l wd x0 x1 x2 x3 pf ur (h.size) C (P3.more (k' := 7) (n' := 190) (le_ _ _ rfl) (le_ _ _ rfl)) q1 A3 F3_0 (hU.mpr (Or.inl q4) ▸ (S.ext (exK E2 K3 (Nat.le_refl _))))
    · skip
      refine blk C P3 [.iload 4, .iconst 2] (by decide +kernel) (pc' := 184) (L' := [.val (.int x0), .val (.int x1), .val (.int x2), .val (.int x3), .val (.int (x0 &&& (7 : Int32))), .val (.ref pf), .val (.ref ur), .val (.ref h.size), .unset, .unset, .unset, .unset, .unset, .unset, .unset, .unset]) (S' := [.int (2 : Int32), .int (x0 &&& (7 : Int32))]) rfl ?_
      refine b_cm C P3 (cd := .ne) (o := 7) (by decide +kernel) (pc' := 191) (by decide) (pn := 187) rfl (fun (q5 : ¬ (x0 &&& (7 : Int32)) = (2 : Int32)) => ?_) (fun (q5 : (x0 &&& (7 : Int32)) = (2 : Int32)) => ?_)
      · skip
        refine blk C P3 [.iconst 0, .istore 8] (by decide +kernel) (pc' := 194) (L' := [.val (.int x0), .val (.int x1), .val (.int x2), .val (.int x3), .val (.int (x0 &&& (7 : Int32))), .val (.ref pf), .val (.ref ur), .val (.ref h.size), .val (.int (0 : Int32)), .unset, .unset, .unset, .unset, .unset, .unset, .unset]) (S' := []) rfl ?_
        exact t194_f l wd x0 x1 x2 x3 pf ur (h.size) C (P3.more (k' := 7) (n' := 190) (le_ _ _ rfl) (le_ _ _ rfl)) q1 A3 F3_0 (S.ext (exK E2 K3 (Nat.le_refl _))) (fun z => (hU.mp z).elim q4 q5)
      · skip
        refine blk C P3 [.iconst 1] (by decide +kernel) (pc' := 188) (L' := [.val (.int x0), .val (.int x1), .val (.int x2), .val (.int x3), .val (.int (x0 &&& (7 : Int32))), .val (.ref pf), .val (.ref ur), .val (.ref h.size), .unset, .unset, .unset, .unset, .unset, .unset, .unset, .unset]) (S' := [.int (1 : Int32)]) rfl ?_
        refine b_goto C P3 (o := 4) (by decide +kernel) (pc' := 192) (by decide) ?_
        refine blk C P3 [.istore 8] (by decide +kernel) (pc' := 194) (L' := [.val (.int x0), .val (.int x1), .val (.int x2), .val (.int x3), .val (.int (x0 &&& (7 : Int32))), .val (.ref pf), .val (.ref ur), .val (.ref h.size), .val (.int (1 : Int32)), .unset, .unset, .unset, .unset, .unset, .unset, .unset]) (S' := []) rfl ?_
        exact t194_t l wd x0 x1 x2 x3 pf ur (h.size) C (P3.more (k' := 7) (n' := 190) (le_ _ _ rfl) (le_ _ _ rfl)) q1 A3 F3_0 (hU.mpr (Or.inr q5) ▸ (S.ext (exK E2 K3 (Nat.le_refl _))))
  · skip
    refine blk C P [.aconst_null] (by decide +kernel) (pc' := 159) (L' := [.val (.int x0), .val (.int x1), .val (.int x2), .val (.int x3), .val (.int (x0 &&& (7 : Int32))), .val (.ref pf), .val (.ref ur), .unset, .unset, .unset, .unset, .unset, .unset, .unset, .unset, .unset]) (S' := [.null]) rfl ?_
    refine b_goto C P (o := 14) (by decide +kernel) (pc' := 173) (by decide) ?_
    refine blk C P [.astore 7, .iload 4, .iconst 1] (by decide +kernel) (pc' := 178) (L' := [.val (.int x0), .val (.int x1), .val (.int x2), .val (.int x3), .val (.int (x0 &&& (7 : Int32))), .val (.ref pf), .val (.ref ur), .val (.null), .unset, .unset, .unset, .unset, .unset, .unset, .unset, .unset]) (S' := [.int (1 : Int32), .int (x0 &&& (7 : Int32))]) rfl ?_
    refine b_cmN C P (cd := .eq) (o := 9) (by decide +kernel) (pc' := 181) rfl (fun z => absurd (q1.symm.trans z) (by decide)) ?_
    refine blk C P [.iload 4, .iconst 2] (by decide +kernel) (pc' := 184) (L' := [.val (.int x0), .val (.int x1), .val (.int x2), .val (.int x3), .val (.int (x0 &&& (7 : Int32))), .val (.ref pf), .val (.ref ur), .val (.null), .unset, .unset, .unset, .unset, .unset, .unset, .unset, .unset]) (S' := [.int (2 : Int32), .int (x0 &&& (7 : Int32))]) rfl ?_
    refine b_cmY C P (cd := .ne) (o := 7) (by decide +kernel) (pc' := 191) (by decide) (fun z => absurd (q1.symm.trans z) (by decide)) ?_
    refine blk C P [.iconst 0, .istore 8] (by decide +kernel) (pc' := 194) (L' := [.val (.int x0), .val (.int x1), .val (.int x2), .val (.int x3), .val (.int (x0 &&& (7 : Int32))), .val (.ref pf), .val (.ref ur), .val (.null), .val (.int (0 : Int32)), .unset, .unset, .unset, .unset, .unset, .unset, .unset]) (S' := []) rfl ?_
    exact t194_n l wd x0 x1 x2 x3 pf ur C (P.more (k' := 7) (n' := 190) (le_ _ _ rfl) (le_ _ _ rfl)) q1
set_option maxRecDepth 65536 in
set_option maxHeartbeats 4000000 in
theorem t30 (l : Launch) {Z : State} {a0 : Array Value} {n0 : Nat} {h : Heap} {z : Int32} {kX uX kD uD : Addr} {dl : List Int32} (wd : Wd Z a0 z kX uX kD uD dl) (x0 x1 x2 x3 : Int32) (pf : Addr)  {p : Program} {e : Env} {s : State} {m : MethodId} {args : Array Value} {below : List Frame} {meth : Method} {c : Code} {T : State} (C : Ctx Z a0 consts_1 p s m meth c "com/example/archive_packager/archivepackager/dc/AttributeIsTypePinLaw" "law" code 16 (some .boolean)) (P : Pos Z consts_1 n0 p l e room_1 s m args below meth c T h 2 16)  :
    Jvm.Own.Run p.tables e below (Jvm.Own.Ends Z consts_1 n0 room_1 below (Ret1 fun v h' => v = .int 1) s) T (fr m 30 [.val (.int x0), .val (.int x1), .val (.int x2), .val (.int x3), .val (.int (x0 &&& (7 : Int32))), .val (.ref pf), .unset, .unset, .unset, .unset, .unset, .unset, .unset, .unset, .unset, .unset] []) := by
  obtain ⟨hw, hEL, Sz, hz, YX, XX, GX, SX, YD, XD, GD, SDt, hdl⟩ := id wd
  have wS : ∀ a ∈ Bundle.stringAtoms, a.before a0 Z = true := fun d hd => hw d ((by decide +kernel : ∀ d ∈ Bundle.stringAtoms, d ∈ tables_1) d hd)
  refine blk C P [.iload 4, .iconst 1] (by decide +kernel) (pc' := 33) (L' := [.val (.int x0), .val (.int x1), .val (.int x2), .val (.int x3), .val (.int (x0 &&& (7 : Int32))), .val (.ref pf), .unset, .unset, .unset, .unset, .unset, .unset, .unset, .unset, .unset, .unset]) (S' := [.int (1 : Int32), .int (x0 &&& (7 : Int32))]) rfl ?_
  refine b_cm C P (cd := .ne) (o := 14) (by decide +kernel) (pc' := 47) (by decide) (pn := 36) rfl (fun (q1 : ¬ (x0 &&& (7 : Int32)) = (1 : Int32)) => ?_) (fun (q1 : (x0 &&& (7 : Int32)) = (1 : Int32)) => ?_)
  · skip
    refine blk C P [.iload 4, .iconst 2] (by decide +kernel) (pc' := 50) (L' := [.val (.int x0), .val (.int x1), .val (.int x2), .val (.int x3), .val (.int (x0 &&& (7 : Int32))), .val (.ref pf), .unset, .unset, .unset, .unset, .unset, .unset, .unset, .unset, .unset, .unset]) (S' := [.int (2 : Int32), .int (x0 &&& (7 : Int32))]) rfl ?_
    refine b_cm C P (cd := .ne) (o := 10) (by decide +kernel) (pc' := 60) (by decide) (pn := 53) rfl (fun (q2 : ¬ (x0 &&& (7 : Int32)) = (2 : Int32)) => ?_) (fun (q2 : (x0 &&& (7 : Int32)) = (2 : Int32)) => ?_)
    · skip
      refine blk C P [.iload 4, .iconst 3] (by decide +kernel) (pc' := 63) (L' := [.val (.int x0), .val (.int x1), .val (.int x2), .val (.int x3), .val (.int (x0 &&& (7 : Int32))), .val (.ref pf), .unset, .unset, .unset, .unset, .unset, .unset, .unset, .unset, .unset, .unset]) (S' := [.int (3 : Int32), .int (x0 &&& (7 : Int32))]) rfl ?_
      refine b_cm C P (cd := .ne) (o := 10) (by decide +kernel) (pc' := 73) (by decide) (pn := 66) rfl (fun (q3 : ¬ (x0 &&& (7 : Int32)) = (3 : Int32)) => ?_) (fun (q3 : (x0 &&& (7 : Int32)) = (3 : Int32)) => ?_)
      · skip
        refine blk C P [.iload 4, .iconst 4] (by decide +kernel) (pc' := 76) (L' := [.val (.int x0), .val (.int x1), .val (.int x2), .val (.int x3), .val (.int (x0 &&& (7 : Int32))), .val (.ref pf), .unset, .unset, .unset, .unset, .unset, .unset, .unset, .unset, .unset, .unset]) (S' := [.int (4 : Int32), .int (x0 &&& (7 : Int32))]) rfl ?_
        refine b_cm C P (cd := .ne) (o := 10) (by decide +kernel) (pc' := 86) (by decide) (pn := 79) rfl (fun (q4 : ¬ (x0 &&& (7 : Int32)) = (4 : Int32)) => ?_) (fun (q4 : (x0 &&& (7 : Int32)) = (4 : Int32)) => ?_)
        · skip
          refine blk C P [.iload 4, .iconst 5] (by decide +kernel) (pc' := 89) (L' := [.val (.int x0), .val (.int x1), .val (.int x2), .val (.int x3), .val (.int (x0 &&& (7 : Int32))), .val (.ref pf), .unset, .unset, .unset, .unset, .unset, .unset, .unset, .unset, .unset, .unset]) (S' := [.int (5 : Int32), .int (x0 &&& (7 : Int32))]) rfl ?_
          refine b_cm C P (cd := .ne) (o := 42) (by decide +kernel) (pc' := 131) (by decide) (pn := 92) rfl (fun (q5 : ¬ (x0 &&& (7 : Int32)) = (5 : Int32)) => ?_) (fun (q5 : (x0 &&& (7 : Int32)) = (5 : Int32)) => ?_)
          · skip
            refine blk C P [.iload 4, .bipush 6] (by decide +kernel) (pc' := 135) (L' := [.val (.int x0), .val (.int x1), .val (.int x2), .val (.int x3), .val (.int (x0 &&& (7 : Int32))), .val (.ref pf), .unset, .unset, .unset, .unset, .unset, .unset, .unset, .unset, .unset, .unset]) (S' := [.int (6 : Int32), .int (x0 &&& (7 : Int32))]) rfl ?_
            refine b_cm C P (cd := .ne) (o := 14) (by decide +kernel) (pc' := 149) (by decide) (pn := 138) rfl (fun (q6 : ¬ (x0 &&& (7 : Int32)) = (6 : Int32)) => ?_) (fun (q6 : (x0 &&& (7 : Int32)) = (6 : Int32)) => ?_)
            · skip
              refine s_ldc C P (idx := 37) (txt 26) (by decide +kernel) (hw _ (List.mem_of_getElem? (i := 26) rfl)) wS (by decide +kernel) (by decide +kernel) (by decide +kernel) (by decide +kernel) (len := 0) (by decide) (by decide) (le_ _ _ rfl) (le_ _ _ rfl) (pc' := 151) rfl (fun T7 h7 a7 P7 E7 S7 => ?_)
              replace P7 := P7.more (k' := 4) (n' := 20) (le_ _ _ rfl) (le_ _ _ rfl)
              refine blk C P7 [.astore 6] (by decide +kernel) (pc' := 153) (L' := [.val (.int x0), .val (.int x1), .val (.int x2), .val (.int x3), .val (.int (x0 &&& (7 : Int32))), .val (.ref pf), .val (.ref a7), .unset, .unset, .unset, .unset, .unset, .unset, .unset, .unset, .unset]) (S' := []) rfl ?_
              exact t153 l wd x0 x1 x2 x3 pf a7 C (P7.more (k' := 6) (n' := 188) (le_ _ _ rfl) (le_ _ _ rfl)) S7 ⟨fun z => absurd z (by decide +kernel), fun z => z.elim (fun w => absurd w q1) (fun w => absurd w q2)⟩
            · skip
              refine s_gets C P (idx := 34) (by decide +kernel) (hw _ (List.mem_of_getElem? (i := 109) rfl)) YD (pc' := 141) rfl (fun T8 P8 => ?_)
              refine c_virtual C P8 (idx := 21) (y := (⟨"com/example/archive_packager/archivepackager/xml/Namespace", "uri", "()Ljava/lang/String;"⟩ : MethodName)) (K0 := "com/example/archive_packager/archivepackager/xml/Namespace") (ybytes := prog_104_method_6_code) (ymax := 1) (yret := (some (.object "java/lang/String"))) (yrm := ({ frames := 0, cells := 0, slots := 0, locals := 0 } : Room)) (by decide +kernel) (hw _ (List.mem_of_getElem? (i := 89) rfl)) (hw _ (List.mem_of_getElem? (i := 69) rfl)) (hw _ (List.mem_of_getElem? (i := 71) rfl)) (hw _ (List.mem_of_getElem? (i := 70) rfl)) (hw _ (List.mem_of_getElem? (i := 59) rfl)) (hw _ (List.mem_of_getElem? (i := 72) rfl)) (by decide) (XD.ext P8.z) [] [] (k_uri l wd kD uD P8.old (GD.ext P8.z)) (le_ _ _ rfl) (W := 0) (le_ _ _ rfl) (by decide +kernel : parseMethodDescriptor "()Ljava/lang/String;" = some ⟨[], some (.object "java/lang/String")⟩) rfl rfl rfl (le_ _ _ rfl) (le_ _ _ rfl) (le_ _ _ rfl) (pc' := 144) rfl (fun T9 h9 v9 P9 Q9 => ?_)
              replace P9 := P9.more (k' := 2) (n' := 16) (le_ _ _ rfl) (le_ _ _ rfl)
              obtain ⟨rfl, rfl⟩ := Q9
              refine blk C P9 [.astore 6] (by decide +kernel) (pc' := 146) (L' := [.val (.int x0), .val (.int x1), .val (.int x2), .val (.int x3), .val (.int (x0 &&& (7 : Int32))), .val (.ref pf), .val (.ref uD), .unset, .unset, .unset, .unset, .unset, .unset, .unset, .unset, .unset]) (S' := []) rfl ?_
              refine b_goto C P9 (o := 7) (by decide +kernel) (pc' := 153) (by decide) ?_
              exact t153 l wd x0 x1 x2 x3 pf uD C (P9.more (k' := 6) (n' := 188) (le_ _ _ rfl) (le_ _ _ rfl)) (SDt.ext P9.z) ⟨fun z => absurd z (ne_len (by rw [hdl]; decide +kernel)), fun z => z.elim (fun w => absurd w q1) (fun w => absurd w q2)⟩
          · skip
            refine s_new C P (idx := 10) (by decide +kernel) (hw _ (List.mem_of_getElem? (i := 90) rfl)) (hw _ (List.mem_of_getElem? (i := 10) rfl)) (hw _ (List.mem_of_getElem? (i := 2) rfl)) (le_ _ _ rfl) (le_ _ _ rfl) (pc' := 95) rfl (fun T10 h10 P10 E10 B10 => ?_)
            replace P10 := P10.more (k' := 3) (n' := 20) (le_ _ _ rfl) (le_ _ _ rfl)
            refine blk C P10 [.dup, .iconst 2] (by decide +kernel) (pc' := 97) (L' := [.val (.int x0), .val (.int x1), .val (.int x2), .val (.int x3), .val (.int (x0 &&& (7 : Int32))), .val (.ref pf), .unset, .unset, .unset, .unset, .unset, .unset, .unset, .unset, .unset, .unset]) (S' := [.int (2 : Int32), .ref h.size, .ref h.size]) rfl ?_
            refine s_newC C P10 2 (by decide +kernel) (hw _ (List.mem_of_getElem? (i := 91) rfl)) rfl (by decide) (le_ _ _ rfl) (le_ _ _ rfl) (pc' := 99) rfl (fun T11 h11 P11 E11 V11 => ?_)
            replace P11 := P11.more (k' := 4) (n' := 22) (le_ _ _ rfl) (le_ _ _ rfl)
            refine blk C P11 [.dup, .iconst 0, .iload_n 3, .bipush 8, .ishr, .sipush 255, .iand, .i2c] (by decide +kernel) (pc' := 110) (L' := [.val (.int x0), .val (.int x1), .val (.int x2), .val (.int x3), .val (.int (x0 &&& (7 : Int32))), .val (.ref pf), .unset, .unset, .unset, .unset, .unset, .unset, .unset, .unset, .unset, .unset]) (S' := [.int (c16 ((x3 >>> ((8 : Int32) &&& 31)) &&& (255 : Int32))), .int (0 : Int32), .ref h10.size, .ref h10.size, .ref h.size, .ref h.size]) rfl ?_
            refine s_stC C P11 0 (by decide +kernel) V11 rfl (Nat.lt_of_lt_of_le (Nat.lt_succ_self _) (le_ _ _ rfl)) (c16_idem _) (pc' := 111) rfl (fun T12 h12 P12 K12 V12 => ?_)
            replace V12 : Chs Z n0 h12 (h10.size) [(c16 ((x3 >>> ((8 : Int32) &&& 31)) &&& (255 : Int32))), (0 : Int32)] := V12
            refine blk C P12 [.dup, .iconst 1, .iload_n 3, .bipush 16, .ishr, .sipush 255, .iand, .i2c] (by decide +kernel) (pc' := 122) (L' := [.val (.int x0), .val (.int x1), .val (.int x2), .val (.int x3), .val (.int (x0 &&& (7 : Int32))), .val (.ref pf), .unset, .unset, .unset, .unset, .unset, .unset, .unset, .unset, .unset, .unset]) (S' := [.int (c16 ((x3 >>> ((16 : Int32) &&& 31)) &&& (255 : Int32))), .int (1 : Int32), .ref h10.size, .ref h10.size, .ref h.size, .ref h.size]) rfl ?_
            refine s_stC C P12 1 (by decide +kernel) V12 rfl (Nat.lt_of_lt_of_le (Nat.lt_succ_self _) (le_ _ _ rfl)) (c16_idem _) (pc' := 123) rfl (fun T13 h13 P13 K13 V13 => ?_)
            replace V13 : Chs Z n0 h13 (h10.size) [(c16 ((x3 >>> ((8 : Int32) &&& 31)) &&& (255 : Int32))), (c16 ((x3 >>> ((16 : Int32) &&& 31)) &&& (255 : Int32)))] := V13
            have B15 := (B10.ext (exK (exK E11 K12 (Nat.le_refl _)) K13 (Nat.le_refl _)))
            refine c_newStr C P13 hw Sz hz (idx := 31) (cs := [(c16 ((x3 >>> ((8 : Int32) &&& 31)) &&& (255 : Int32))), (c16 ((x3 >>> ((16 : Int32) &&& 31)) &&& (255 : Int32)))]) (rest := [.ref h.size]) (W := 1) (by decide +kernel) (hw _ (List.mem_of_getElem? (i := 92) rfl)) (hw _ (List.mem_of_getElem? (i := 93) rfl)) B15 V13 (latS latv (latS latv lat0)) (by simp) rfl (le_ _ _ rfl) (le_ _ _ rfl) (le_ _ _ rfl) (le_ _ _ rfl) (le_ _ _ rfl) (pc' := 126) rfl (fun T14 h14 P14 K14 S14 => ?_)
            replace P14 := P14.more (k' := 6) (n' := 28) (le_ _ _ rfl) (le_ _ _ rfl)
            refine blk C P14 [.astore 6] (by decide +kernel) (pc' := 128) (L' := [.val (.int x0), .val (.int x1), .val (.int x2), .val (.int x3), .val (.int (x0 &&& (7 : Int32))), .val (.ref pf), .val (.ref h.size), .unset, .unset, .unset, .unset, .unset, .unset, .unset, .unset, .unset]) (S' := []) rfl ?_
            refine b_goto C P14 (o := 25) (by decide +kernel) (pc' := 153) (by decide) ?_
            exact t153 l wd x0 x1 x2 x3 pf (h.size) C (P14.more (k' := 6) (n' := 188) (le_ _ _ rfl) (le_ _ _ rfl)) S14 ⟨fun z => absurd z (ne_len (by show 2 ≠ ((txt 84)).length; decide +kernel)), fun z => z.elim (fun w => absurd w q1) (fun w => absurd w q2)⟩
        · skip
          refine s_ldc C P (idx := 29) (txt 56) (by decide +kernel) (hw _ (List.mem_of_getElem? (i := 56) rfl)) wS (by decide +kernel) (by decide +kernel) (by decide +kernel) (by decide +kernel) (len := 168) (by decide) (by decide) (le_ _ _ rfl) (le_ _ _ rfl) (pc' := 81) rfl (fun T16 h16 a16 P16 E16 S16 => ?_)
          replace P16 := P16.more (k' := 4) (n' := 188) (le_ _ _ rfl) (le_ _ _ rfl)
          refine blk C P16 [.astore 6] (by decide +kernel) (pc' := 83) (L' := [.val (.int x0), .val (.int x1), .val (.int x2), .val (.int x3), .val (.int (x0 &&& (7 : Int32))), .val (.ref pf), .val (.ref a16), .unset, .unset, .unset, .unset, .unset, .unset, .unset, .unset, .unset]) (S' := []) rfl ?_
          refine b_goto C P16 (o := 70) (by decide +kernel) (pc' := 153) (by decide) ?_
          exact t153 l wd x0 x1 x2 x3 pf a16 C (P16.more (k' := 6) (n' := 188) (le_ _ _ rfl) (le_ _ _ rfl)) S16 ⟨fun z => absurd z (by decide +kernel), fun z => z.elim (fun w => absurd w q1) (fun w => absurd w q2)⟩
      · skip
        refine s_ldc C P (idx := 27) (txt 108) (by decide +kernel) (hw _ (List.mem_of_getElem? (i := 108) rfl)) wS (by decide +kernel) (by decide +kernel) (by decide +kernel) (by decide +kernel) (len := 128) (by decide) (by decide) (le_ _ _ rfl) (le_ _ _ rfl) (pc' := 68) rfl (fun T17 h17 a17 P17 E17 S17 => ?_)
        replace P17 := P17.more (k' := 4) (n' := 148) (le_ _ _ rfl) (le_ _ _ rfl)
        refine blk C P17 [.astore 6] (by decide +kernel) (pc' := 70) (L' := [.val (.int x0), .val (.int x1), .val (.int x2), .val (.int x3), .val (.int (x0 &&& (7 : Int32))), .val (.ref pf), .val (.ref a17), .unset, .unset, .unset, .unset, .unset, .unset, .unset, .unset, .unset]) (S' := []) rfl ?_
        refine b_goto C P17 (o := 83) (by decide +kernel) (pc' := 153) (by decide) ?_
        exact t153 l wd x0 x1 x2 x3 pf a17 C (P17.more (k' := 6) (n' := 188) (le_ _ _ rfl) (le_ _ _ rfl)) S17 ⟨fun z => absurd z (by decide +kernel), fun z => z.elim (fun w => absurd w q1) (fun w => absurd w q2)⟩
    · skip
      refine s_ldc C P (idx := 25) (txt 84) (by decide +kernel) (hw _ (List.mem_of_getElem? (i := 84) rfl)) wS (by decide +kernel) (by decide +kernel) (by decide +kernel) (by decide +kernel) (len := 164) (by decide) (by decide) (le_ _ _ rfl) (le_ _ _ rfl) (pc' := 55) rfl (fun T18 h18 a18 P18 E18 S18 => ?_)
      replace P18 := P18.more (k' := 4) (n' := 184) (le_ _ _ rfl) (le_ _ _ rfl)
      refine blk C P18 [.astore 6] (by decide +kernel) (pc' := 57) (L' := [.val (.int x0), .val (.int x1), .val (.int x2), .val (.int x3), .val (.int (x0 &&& (7 : Int32))), .val (.ref pf), .val (.ref a18), .unset, .unset, .unset, .unset, .unset, .unset, .unset, .unset, .unset]) (S' := []) rfl ?_
      refine b_goto C P18 (o := 96) (by decide +kernel) (pc' := 153) (by decide) ?_
      exact t153 l wd x0 x1 x2 x3 pf a18 C (P18.more (k' := 6) (n' := 188) (le_ _ _ rfl) (le_ _ _ rfl)) S18 ⟨fun _ => Or.inr q2, fun _ => rfl⟩
  · skip
    refine s_gets C P (idx := 15) (by decide +kernel) (hw _ (List.mem_of_getElem? (i := 87) rfl)) YX (pc' := 39) rfl (fun T19 P19 => ?_)
    refine c_virtual C P19 (idx := 21) (y := (⟨"com/example/archive_packager/archivepackager/xml/Namespace", "uri", "()Ljava/lang/String;"⟩ : MethodName)) (K0 := "com/example/archive_packager/archivepackager/xml/Namespace") (ybytes := prog_104_method_6_code) (ymax := 1) (yret := (some (.object "java/lang/String"))) (yrm := ({ frames := 0, cells := 0, slots := 0, locals := 0 } : Room)) (by decide +kernel) (hw _ (List.mem_of_getElem? (i := 89) rfl)) (hw _ (List.mem_of_getElem? (i := 69) rfl)) (hw _ (List.mem_of_getElem? (i := 71) rfl)) (hw _ (List.mem_of_getElem? (i := 70) rfl)) (hw _ (List.mem_of_getElem? (i := 59) rfl)) (hw _ (List.mem_of_getElem? (i := 72) rfl)) (by decide) (XX.ext P19.z) [] [] (k_uri l wd kX uX P19.old (GX.ext P19.z)) (le_ _ _ rfl) (W := 0) (le_ _ _ rfl) (by decide +kernel : parseMethodDescriptor "()Ljava/lang/String;" = some ⟨[], some (.object "java/lang/String")⟩) rfl rfl rfl (le_ _ _ rfl) (le_ _ _ rfl) (le_ _ _ rfl) (pc' := 42) rfl (fun T20 h20 v20 P20 Q20 => ?_)
    replace P20 := P20.more (k' := 2) (n' := 16) (le_ _ _ rfl) (le_ _ _ rfl)
    obtain ⟨rfl, rfl⟩ := Q20
    refine blk C P20 [.astore 6] (by decide +kernel) (pc' := 44) (L' := [.val (.int x0), .val (.int x1), .val (.int x2), .val (.int x3), .val (.int (x0 &&& (7 : Int32))), .val (.ref pf), .val (.ref uX), .unset, .unset, .unset, .unset, .unset, .unset, .unset, .unset, .unset]) (S' := []) rfl ?_
    refine b_goto C P20 (o := 109) (by decide +kernel) (pc' := 153) (by decide) ?_
    exact t153 l wd x0 x1 x2 x3 pf uX C (P20.more (k' := 6) (n' := 188) (le_ _ _ rfl) (le_ _ _ rfl)) (SX.ext P20.z) ⟨fun _ => Or.inl q1, fun _ => rfl⟩
theorem k_law_ef (m : MethodId) (x0 x1 x2 x3 : Int32) : entryFrame m #[.int x0, .int x1, .int x2, .int x3] maxLocals = fr m 0 [.val (.int x0), .val (.int x1), .val (.int x2), .val (.int x3), .unset, .unset, .unset, .unset, .unset, .unset, .unset, .unset, .unset, .unset, .unset, .unset] [] := by first | (simp [entryFrame, mkF, argsToLocals, Value.category, maxLocals]; done) | rfl
set_option maxRecDepth 65536 in
set_option maxHeartbeats 4000000 in
theorem k_law (l : Launch) {Z : State} {a0 : Array Value} {n0 : Nat} {h : Heap} {z : Int32} {kX uX kD uD : Addr} {dl : List Int32} (wd : Wd Z a0 z kX uX kD uD dl) (x0 x1 x2 x3 : Int32)  (O : Old Z n0 h)  :
    Con l Z consts_1 n0 tables_1 x code maxLocals ret room_1 #[.int x0, .int x1, .int x2, .int x3] h (Ret1 fun v h' => v = .int 1) := by
  obtain ⟨hw, hEL, Sz, hz, YX, XX, GX, SX, YD, XD, GD, SDt, hdl⟩ := id wd
  have wS : ∀ a ∈ Bundle.stringAtoms, a.before a0 Z = true := fun d hd => hw d ((by decide +kernel : ∀ d ∈ Bundle.stringAtoms, d ∈ tables_1) d hd)
  refine Con.intro (plainFor_of_name (by first | (simp [plainName, overriddenIn]; done) | decide +kernel)) O hEL ?_
  intro p e s m below meth c T C hs P
  have C : Ctx Z a0 consts_1 p s m meth c "com/example/archive_packager/archivepackager/dc/AttributeIsTypePinLaw" "law" code 16 (some .boolean) := C
  refine Run.cast (k_law_ef m x0 x1 x2 x3) ?_
  refine blk C P [.iload_n 0, .bipush 7, .iand, .istore 4, .iload_n 0, .iconst 3, .ishr, .iconst 1, .iand] (by decide +kernel) (pc' := 11) (L' := [.val (.int x0), .val (.int x1), .val (.int x2), .val (.int x3), .val (.int (x0 &&& (7 : Int32))), .unset, .unset, .unset, .unset, .unset, .unset, .unset, .unset, .unset, .unset, .unset]) (S' := [.int ((x0 >>> ((3 : Int32) &&& 31)) &&& (1 : Int32))]) rfl ?_
  refine b_if C P (cd := .eq) (o := 8) (by decide +kernel) (pc' := 19) (by decide) (pn := 14) rfl (fun (q1 : ((x0 >>> ((3 : Int32) &&& 31)) &&& (1 : Int32)) = 0) => ?_) (fun (q1 : ¬ ((x0 >>> ((3 : Int32) &&& 31)) &&& (1 : Int32)) = 0) => ?_)
  · skip
    refine blk C P [.iload_n 3, .sipush 255, .iand, .i2c] (by decide +kernel) (pc' := 25) (L' := [.val (.int x0), .val (.int x1), .val (.int x2), .val (.int x3), .val (.int (x0 &&& (7 : Int32))), .unset, .unset, .unset, .unset, .unset, .unset, .unset, .unset, .unset, .unset, .unset]) (S' := [.int (c16 (x3 &&& (255 : Int32)))]) rfl ?_
    refine c_static C P (idx := 9) (y := (⟨"java/lang/String", "valueOf", "(C)Ljava/lang/String;"⟩ : MethodName)) (ybytes := jdk_42_method_139_code) (ymax := 1) (yret := (some (.object "java/lang/String"))) (yrm := ({ frames := 2, cells := 2, slots := 5, locals := 28 } : Room)) (by decide +kernel) (hw _ (List.mem_of_getElem? (i := 0) rfl)) (hw _ (List.mem_of_getElem? (i := 1) rfl)) (hw _ (List.mem_of_getElem? (i := 2) rfl)) (hw _ (List.mem_of_getElem? (i := 3) rfl)) (by decide) [.int (c16 (x3 &&& (255 : Int32)))] [] (k_valueOf l hw hEL Sz hz (c16 (x3 &&& (255 : Int32))) P.old latv) (le_ _ _ rfl) (W := 0) (le_ _ _ rfl) (by decide +kernel : parseMethodDescriptor "(C)Ljava/lang/String;" = some ⟨[.char], some (.object "java/lang/String")⟩) rfl rfl rfl (le_ _ _ rfl) (le_ _ _ rfl) (le_ _ _ rfl) (pc' := 28) rfl (fun T2 h2 v2 P2 Q2 => ?_)
    replace P2 := P2.more (k' := 2) (n' := 5) (le_ _ _ rfl) (le_ _ _ rfl)
    obtain ⟨b2, rfl, E2, S2⟩ := Q2
    refine blk C P2 [.astore 5] (by decide +kernel) (pc' := 30) (L' := [.val (.int x0), .val (.int x1), .val (.int x2), .val (.int x3), .val (.int (x0 &&& (7 : Int32))), .val (.ref b2), .unset, .unset, .unset, .unset, .unset, .unset, .unset, .unset, .unset, .unset]) (S' := []) rfl ?_
    exact t30 l wd x0 x1 x2 x3 b2 C (P2.more (k' := 2) (n' := 16) (le_ _ _ rfl) (le_ _ _ rfl)) 
  · skip
    refine s_ldc C P (idx := 7) (txt 55) (by decide +kernel) (hw _ (List.mem_of_getElem? (i := 55) rfl)) wS (by decide +kernel) (by decide +kernel) (by decide +kernel) (by decide +kernel) (len := 12) (by decide) (by decide) (le_ _ _ rfl) (le_ _ _ rfl) (pc' := 16) rfl (fun T3 h3 a3 P3 E3 S3 => ?_)
    replace P3 := P3.more (k' := 2) (n' := 16) (le_ _ _ rfl) (le_ _ _ rfl)
    refine b_goto C P3 (o := 12) (by decide +kernel) (pc' := 28) (by decide) ?_
    refine blk C P3 [.astore 5] (by decide +kernel) (pc' := 30) (L' := [.val (.int x0), .val (.int x1), .val (.int x2), .val (.int x3), .val (.int (x0 &&& (7 : Int32))), .val (.ref a3), .unset, .unset, .unset, .unset, .unset, .unset, .unset, .unset, .unset, .unset]) (S' := []) rfl ?_
    exact t30 l wd x0 x1 x2 x3 a3 C (P3.more (k' := 2) (n' := 16) (le_ _ _ rfl) (le_ _ _ rfl)) 
set_option maxRecDepth 65536 in
set_option maxHeartbeats 4000000 in
theorem comes_1 {Post : Tables → Env → Array Value → State → Outcome → State → Prop} (hpost : ∀ tb e args s v u, (limb_1_1.after args s (.returned v) u = true ∧ limb_1_2.after args s (.returned v) u = true ∧ True) → FramedW s (.returned v) u (Jvm.fieldLocs frame_1_writes args s ++ Jvm.arrayLocs frame_1_arrays args s ++ Jvm.staticLocs frame_1_statics s) 56 10432 → Post tb e args s (.returned v) u) :
    ArmFor flags0 classFile x code maxLocals ret World_1 tables_1 room_1 Calls_1 rest_1 Pre_1 Post := by
  intro l hfl _ _ p e ha hc hk s m args below hf hA hF happ hP
  obtain ⟨hcalls, hrest, hpre⟩ := hP
  obtain ⟨-, -, -, hnamed, -, -, -, hat⟩ := (Spec.applies_iff hf).mp happ
  obtain ⟨hg, hn⟩ := and_e (Cond.before_iff.mp (show (Jvm.Cond.and given_1 narrow_1).before args s = true from hpre))
  obtain ⟨hcount, g0⟩ := and_e hg
  obtain ⟨w0, w1, w2, w3, rfl⟩ : ∃ w0 w1 w2 w3 : Value, args = #[w0, w1, w2, w3] := by
    have hs : args.size = 4 := by simpa [Cond.value, given_1] using hcount
    obtain ⟨L⟩ := args
    match L, hs with
    | [w0, w1, w2, w3], _ => exact ⟨w0, w1, w2, w3, rfl⟩
  obtain ⟨c0, g1⟩ := and_e g0
  obtain ⟨i0, e0⟩ := is_v c0
  obtain rfl : w0 = .int i0 := Option.some.inj e0
  obtain ⟨c1, g2⟩ := and_e g1
  obtain ⟨i1, e1⟩ := is_v c1
  obtain rfl : w1 = .int i1 := Option.some.inj e1
  obtain ⟨c2, g3⟩ := and_e g2
  obtain ⟨i2, e2⟩ := is_v c2
  obtain rfl : w2 = .int i2 := Option.some.inj e2
  obtain ⟨i3, e3⟩ := is_v g3
  obtain rfl : w3 = .int i3 := Option.some.inj e3
  have hw := fun d (hd : d ∈ tables_1) => atoms_spec (ws := Jvm.Cond.code x code maxLocals ret :: tables_1) hat d (List.mem_cons_of_mem _ hd)
  obtain ⟨hsets, hown0⟩ := atoms_of _ (rest_1_c_eq ▸ (show rest_1_c.before _ s = true from hrest))
  have n3 := not_v (Cond.before_iff.mp (hsets _ (List.mem_of_getElem? (i := 2) rfl)))
  obtain ⟨z, ez⟩ := is_v (Cond.before_iff.mp (hsets _ (List.mem_of_getElem? (i := 1) rfl)))
  have Sz : Sta s s.heap "java/lang/String" "COMPACT_STRINGS" "Z" (.int z) := Sta.start ez (Or.inl (hsets _ (List.mem_of_getElem? (i := 0) rfl)))
  have hz : ¬ (z = (0 : Int32)) := gotF (Cond.eq_ints ez (Term.int_eval (0))) n3
  have hfit : Fit s := fun {y c} hc i hi => by
    obtain ⟨ha, rfl⟩ := Array.getElem?_eq_some_iff.mp hc
    have q := List.all_eq_true.mp ((Array.all_eq_true_iff_forall_mem.mp hF) _ (Array.getElem_mem ha)) i (List.mem_range.mpr hi)
    simpa [Array.getElem?_eq_getElem hi] using q
  obtain ⟨a1, hn⟩ := and_e hn
  obtain ⟨a2, hn⟩ := and_e hn
  obtain ⟨a3, hn⟩ := and_e hn
  obtain ⟨a4, hn⟩ := and_e hn
  obtain ⟨a5, hn⟩ := and_e hn
  obtain ⟨a6, hn⟩ := and_e hn
  obtain ⟨a7, hn⟩ := and_e hn
  obtain ⟨a8, hn⟩ := and_e hn
  obtain ⟨a9, hn⟩ := and_e hn
  obtain ⟨a10, hn⟩ := and_e hn
  obtain ⟨a11, hn⟩ := and_e hn
  obtain ⟨l0, hn⟩ := and_e hn
  obtain ⟨l1, hn⟩ := and_e hn
  obtain ⟨l2, hn⟩ := and_e hn
  obtain ⟨l3, hn⟩ := and_e hn
  obtain ⟨l4, hn⟩ := and_e hn
  obtain ⟨l5, hn⟩ := and_e hn
  obtain ⟨l6, hn⟩ := and_e hn
  obtain ⟨l7, hn⟩ := and_e hn
  obtain ⟨l8, hn⟩ := and_e hn
  obtain ⟨l9, hn⟩ := and_e hn
  obtain ⟨l10, hn⟩ := and_e hn
  obtain ⟨l11, hn⟩ := and_e hn
  obtain ⟨l12, hn⟩ := and_e hn
  obtain ⟨l13, hn⟩ := and_e hn
  obtain ⟨l14, hn⟩ := and_e hn
  obtain ⟨l15, hn⟩ := and_e hn
  obtain ⟨l16, hn⟩ := and_e hn
  obtain ⟨l17, hn⟩ := and_e hn
  obtain ⟨l18, hn⟩ := and_e hn
  obtain ⟨l19, hn⟩ := and_e hn
  obtain ⟨l20, hn⟩ := and_e hn
  obtain ⟨l21, hn⟩ := and_e hn
  obtain ⟨l22, hn⟩ := and_e hn
  obtain ⟨l23, hn⟩ := and_e hn
  obtain ⟨l24, hn⟩ := and_e hn
  obtain ⟨l25, hn⟩ := and_e hn
  obtain ⟨l26, hn⟩ := and_e hn
  obtain ⟨l27, hn⟩ := and_e hn
  obtain ⟨l28, hn⟩ := and_e hn
  obtain ⟨l29, hn⟩ := and_e hn
  obtain ⟨l30, hn⟩ := and_e hn
  obtain ⟨l31, hn⟩ := and_e hn
  obtain ⟨l32, hn⟩ := and_e hn
  obtain ⟨l33, hn⟩ := and_e hn
  obtain ⟨l34, hn⟩ := and_e hn
  obtain ⟨l35, hn⟩ := and_e hn
  obtain ⟨l36, hn⟩ := and_e hn
  obtain ⟨l37, hn⟩ := and_e hn
  obtain ⟨l38, hn⟩ := and_e hn
  obtain ⟨l39, hn⟩ := and_e hn
  have l40 := hn
  obtain ⟨kX, ekX⟩ := exa_v a1
  have XkX : Exa s s.heap kX "com/example/archive_packager/archivepackager/xml/Namespace" := Exa.start ekX a1
  have YkX : Sta s s.heap "com/example/archive_packager/archivepackager/xml/Namespace" "XSI" "Lcom/example/archive_packager/archivepackager/xml/Namespace;" (.ref kX) := Sta.start ekX (Or.inr ⟨(hw _ (List.mem_of_getElem? (i := 59) rfl)), (hw _ (List.mem_of_getElem? (i := 74) rfl))⟩)
  obtain ⟨uX, euX⟩ := exa_v a2
  have GX : Fld s s.heap kX "com/example/archive_packager/archivepackager/xml/Namespace" "uri" "Ljava/lang/String;" (.ref uX) := ref_fld ekX euX
  obtain ⟨cX, bX, clX, vX, AX, szX, hX⟩ := str_cells (n := 41) euX a3 a4 a5 (by decide)
  have SX : Str s s.heap uX (txt 84) := str_of (Exa.start euX a2) cX vX AX (szX.trans (by decide +kernel)) (by decide +kernel) (by decide +kernel) (fun j hj => by
      have hj : j < 41 := hj
      match j, hj with
      | 0, _ => exact (hX 0 _ (by decide) l0).trans (by decide +kernel)
      | 1, _ => exact (hX 1 _ (by decide) l1).trans (by decide +kernel)
      | 2, _ => exact (hX 2 _ (by decide) l2).trans (by decide +kernel)
      | 3, _ => exact (hX 3 _ (by decide) l3).trans (by decide +kernel)
      | 4, _ => exact (hX 4 _ (by decide) l4).trans (by decide +kernel)
      | 5, _ => exact (hX 5 _ (by decide) l5).trans (by decide +kernel)
      | 6, _ => exact (hX 6 _ (by decide) l6).trans (by decide +kernel)
      | 7, _ => exact (hX 7 _ (by decide) l7).trans (by decide +kernel)
      | 8, _ => exact (hX 8 _ (by decide) l8).trans (by decide +kernel)
      | 9, _ => exact (hX 9 _ (by decide) l9).trans (by decide +kernel)
      | 10, _ => exact (hX 10 _ (by decide) l10).trans (by decide +kernel)
      | 11, _ => exact (hX 11 _ (by decide) l11).trans (by decide +kernel)
      | 12, _ => exact (hX 12 _ (by decide) l12).trans (by decide +kernel)
      | 13, _ => exact (hX 13 _ (by decide) l13).trans (by decide +kernel)
      | 14, _ => exact (hX 14 _ (by decide) l14).trans (by decide +kernel)
      | 15, _ => exact (hX 15 _ (by decide) l15).trans (by decide +kernel)
      | 16, _ => exact (hX 16 _ (by decide) l16).trans (by decide +kernel)
      | 17, _ => exact (hX 17 _ (by decide) l17).trans (by decide +kernel)
      | 18, _ => exact (hX 18 _ (by decide) l18).trans (by decide +kernel)
      | 19, _ => exact (hX 19 _ (by decide) l19).trans (by decide +kernel)
      | 20, _ => exact (hX 20 _ (by decide) l20).trans (by decide +kernel)
      | 21, _ => exact (hX 21 _ (by decide) l21).trans (by decide +kernel)
      | 22, _ => exact (hX 22 _ (by decide) l22).trans (by decide +kernel)
      | 23, _ => exact (hX 23 _ (by decide) l23).trans (by decide +kernel)
      | 24, _ => exact (hX 24 _ (by decide) l24).trans (by decide +kernel)
      | 25, _ => exact (hX 25 _ (by decide) l25).trans (by decide +kernel)
      | 26, _ => exact (hX 26 _ (by decide) l26).trans (by decide +kernel)
      | 27, _ => exact (hX 27 _ (by decide) l27).trans (by decide +kernel)
      | 28, _ => exact (hX 28 _ (by decide) l28).trans (by decide +kernel)
      | 29, _ => exact (hX 29 _ (by decide) l29).trans (by decide +kernel)
      | 30, _ => exact (hX 30 _ (by decide) l30).trans (by decide +kernel)
      | 31, _ => exact (hX 31 _ (by decide) l31).trans (by decide +kernel)
      | 32, _ => exact (hX 32 _ (by decide) l32).trans (by decide +kernel)
      | 33, _ => exact (hX 33 _ (by decide) l33).trans (by decide +kernel)
      | 34, _ => exact (hX 34 _ (by decide) l34).trans (by decide +kernel)
      | 35, _ => exact (hX 35 _ (by decide) l35).trans (by decide +kernel)
      | 36, _ => exact (hX 36 _ (by decide) l36).trans (by decide +kernel)
      | 37, _ => exact (hX 37 _ (by decide) l37).trans (by decide +kernel)
      | 38, _ => exact (hX 38 _ (by decide) l38).trans (by decide +kernel)
      | 39, _ => exact (hX 39 _ (by decide) l39).trans (by decide +kernel)
      | 40, _ => exact (hX 40 _ (by decide) l40).trans (by decide +kernel)
      | n + 41, hj => exact absurd hj (by omega))
  obtain ⟨kD, ekD⟩ := exa_v a6
  have XkD : Exa s s.heap kD "com/example/archive_packager/archivepackager/xml/Namespace" := Exa.start ekD a6
  have YkD : Sta s s.heap "com/example/archive_packager/archivepackager/xml/Namespace" "DCTERMS" "Lcom/example/archive_packager/archivepackager/xml/Namespace;" (.ref kD) := Sta.start ekD (Or.inr ⟨(hw _ (List.mem_of_getElem? (i := 59) rfl)), (hw _ (List.mem_of_getElem? (i := 110) rfl))⟩)
  obtain ⟨uD, euD⟩ := exa_v a7
  have GD : Fld s s.heap kD "com/example/archive_packager/archivepackager/xml/Namespace" "uri" "Ljava/lang/String;" (.ref uD) := ref_fld ekD euD
  obtain ⟨dl, hdl, SDt⟩ := str_some (n := 25) hfit euD a7 a9 a10 a11 (by decide)
  have XX := XkX
  have YX := YkX
  have XD := XkD
  have YD := YkD
  have hEL : EW s _ consts_1 := (EW.cons (hw _ (List.mem_of_getElem? (i := 55) rfl)) (by decide) (EW.cons (hw _ (List.mem_of_getElem? (i := 84) rfl)) (by decide) (EW.cons (hw _ (List.mem_of_getElem? (i := 108) rfl)) (by decide) (EW.cons (hw _ (List.mem_of_getElem? (i := 56) rfl)) (by decide) (EW.cons (hw _ (List.mem_of_getElem? (i := 26) rfl)) (by decide) (EW.cons (hw _ (List.mem_of_getElem? (i := 86) rfl)) (by decide) (EW.cons (hw _ (List.mem_of_getElem? (i := 85) rfl)) (by decide) (EW.cons (hw _ (List.mem_of_getElem? (i := 83) rfl)) (by decide) (EW.cons (hw _ (List.mem_of_getElem? (i := 29) rfl)) (by decide) (EW.cons (hw _ (List.mem_of_getElem? (i := 88) rfl)) (by decide) EW.nil))))))))))
  have hCH : CHv s consts_1 s.vm s.heap := CHv.start hEL (fun q hq => hcalls.1 q hq) (hsets _ (List.mem_of_getElem? (i := 2) rfl)) (hw _ (List.mem_of_getElem? (i := 14) rfl)) (hw _ (List.mem_of_getElem? (i := 10) rfl))
  have wd : Wd s _ z kX uX kD uD dl := ⟨hw, hEL, Sz, hz, YX, XX, GX, SX, YD, XD, GD, SDt, hdl⟩
  obtain ⟨n, o, h1, h2, h3, _, L, rfl, ⟨⟨_, rfl, rfl⟩, N, -⟩, -, hq⟩ := k_law l wd i0 i1 i2 i3 (Old.start s) p e ha hc hk s m _ below hf ((Spec.applies_iff_loose hf).mp happ).1 ⟨rfl, State.Warmed39.refl s, rfl, hCH⟩ trivial
  refine ⟨n, _, h1, h2, h3, hpost _ _ _ _ _ _ ⟨Cond.after_iff.mpr rfl, Cond.after_iff.mpr (eq_i res_at (Term.int_eval (1)) rfl), trivial⟩ ⟨hq.1, hq.2.1, hq.2.2.1, (hq.2.2.2.sift fun y hy => Or.inr (N y hy)).mono (by decide) (by decide)⟩⟩
theorem main_1_1 : Claimed_1_1 := comes_1 fun _ _ _ _ _ _ h hF => ⟨h.1, hF⟩
theorem main_1_2 : Claimed_1_2 := comes_1 fun _ _ _ _ _ _ h hF => ⟨h.2.1, hF⟩
end Jvm.Pilot.@@N@@
namespace Jvm.Pilot.@@N@@
open Jvm Jvm.ClassFile Sem Op Lib Jvm.Free Jvm.Stand Jvm.Pilot.@@N@@.Jvm.D
/-! MADE BY PROGRAM (witnessworld.py) out of the Statement's table words and the real class files: 22 classes; the members and pool entries that the words name. The judged class is class 1, her method 1. -/
namespace start1
open Jvm.ClassFile
def u (s : String) : CpInfo := .utf8 (stringToUtf16 s)
/-- a pool by its gaps: so many unusable entries, then the entry; so many at the end -/
def gap : Nat → List CpInfo → List CpInfo
  | 0, r => r
  | n + 1, r => .unusable :: gap n r
def poolList (es : List (Nat × CpInfo)) (last : Nat) : List CpInfo := es.foldr (fun e r => gap e.1 (e.2 :: r)) (gap last [])
def pool (es : List (Nat × CpInfo)) (last : Nat) : Array CpInfo := ⟨poolList es last⟩
def fileOf (pool : Array CpInfo) (this : Nat) (attrs : Array Attribute := #[]) (ms : Array MethodInfo := #[]) (fl : Nat := 33) (sup : Nat := 0) (ifs : Array Nat := #[]) (fds : Array FieldInfo := #[]) : ClassFile where
  minorVersion := 0
  majorVersion := 65
  constantPool := pool
  accessFlags := fl
  thisClass := this
  superClass := sup
  interfaces := ifs
  fields := fds
  methods := ms
  attributes := attrs
def plain (name : String) (sup : Option ClassId) : Class where
  name := name
  kind := .ordinary
  loader := none
  accessFlags := 33
  super := sup
  interfaces := #[]
  cf := none
  fields := #[]
  methods := #[]
  instanceTypes := #[]
  staticTypes := #[]
  resolved := #[]
  callSites := []
  init := .initialized
  statics := none
  mirror := none

def pool0 : Array CpInfo := pool [(5, u "<init>"), (0, u "()V"), (1, .class_ 10), (1, u "java/lang/Object")] 113

def k0c0 : Code := { maxStack := 0, maxLocals := 1, code := object_method_1_code, exceptionTable := #[], attributes := #[] }
def k0m0 : Method := { name := "<init>", desc := "()V", sig := { parameters := [], returnType := none }, accessFlags := 1, code := some k0c0 }
/-- java/lang/Object -/
def k0 : Class := { plain "java/lang/Object" none with
  accessFlags := 33
  interfaces := #[]
  cf := some (fileOf pool0 8 #[] #[{ accessFlags := 1, nameIndex := 5, descriptorIndex := 6, attributes := #[] }] 33 0 #[] #[])
  fields := #[]
  methods := #[k0m0]
  instanceTypes := #[]
  staticTypes := #[]
  resolved := Array.replicate 124 none
  statics := none }

def pool1 : Array CpInfo := pool [(2, .class_ 4), (1, u "java/lang/Object"), (0, u "<init>"), (0, u "()V"), (0, .string 8), (0, u "xsi"), (0, .methodref 10 11), (0, .class_ 12), (0, .nameAndType 13 14), (0, u "java/lang/String"), (0, u "valueOf"), (0, u "(C)Ljava/lang/String;"), (0, .fieldref 16 17), (0, .class_ 18), (0, .nameAndType 19 20), (0, u "com/example/archive_packager/archivepackager/xml/Namespace"), (0, u "XSI"), (0, u "Lcom/example/archive_packager/archivepackager/xml/Namespace;"), (0, .methodref 16 22), (0, .nameAndType 23 24), (0, u "uri"), (0, u "()Ljava/lang/String;"), (0, .string 26), (0, u "http://www.w3.org/2001/XMLSchema-instance"), (0, .string 28), (0, u "http://www.w3.org/2001/XMLSchema"), (0, .string 30), (0, u "http://www.w3.org/2001/XMLSchema-instance/"), (0, .methodref 10 32), (0, .nameAndType 5 33), (0, u "([C)V"), (0, .fieldref 16 35), (0, .nameAndType 36 20), (0, u "DCTERMS"), (0, .string 38), (0, u ""), (0, .methodref 16 40), (0, .nameAndType 5 41), (0, u "(Ljava/lang/String;Ljava/lang/String;)V"), (0, .string 43), (0, u "type"), (0, .string 45), (0, u "Type"), (0, .string 47), (0, u "typ"), (0, .string 49), (0, u "types"), (0, .class_ 51), (0, u "com/example/archive_packager/archivepackager/dc/DcElement$Attribute"), (0, .methodref 50 53), (0, .nameAndType 5 54), (0, u "(Lcom/example/archive_packager/archivepackager/xml/Namespace;Ljava/lang/String;Ljava/lang/String;Lcom/example/archive_packager/archivepackager/xml/Namespace;)V"), (0, .methodref 50 56), (0, .nameAndType 57 58), (0, u "isType"), (0, u "()Z"), (0, .class_ 60), (0, u "com/example/archive_packager/archivepackager/dc/AttributeIsTypePinLaw"), (2, u "law"), (0, u "(IIII)Z")] 7

def k1m0 : Method := { name := "<init>", desc := "()V", sig := { parameters := [], returnType := none }, accessFlags := 1, code := none }
def k1c1 : Code := { maxStack := 7, maxLocals := 16, code := code, exceptionTable := #[], attributes := #[] }
def k1m1 : Method := { name := "law", desc := "(IIII)Z", sig := { parameters := [.int, .int, .int, .int], returnType := some .boolean }, accessFlags := 9, code := some k1c1 }
/-- com/example/archive_packager/archivepackager/dc/AttributeIsTypePinLaw -/
def k1 : Class := { plain "com/example/archive_packager/archivepackager/dc/AttributeIsTypePinLaw" (some 0) with
  accessFlags := 49
  interfaces := #[]
  cf := some (fileOf pool1 59 #[] #[{ accessFlags := 1, nameIndex := 5, descriptorIndex := 6, attributes := #[] }, { accessFlags := 9, nameIndex := 63, descriptorIndex := 64, attributes := #[] }] 49 2 #[] #[])
  fields := #[]
  methods := #[k1m0, k1m1]
  instanceTypes := #[]
  staticTypes := #[]
  resolved := Array.replicate 72 none
  statics := none }

def pool2 : Array CpInfo := pool [(1, .class_ 2), (0, u "java/io/Serializable"), (0, .class_ 4), (0, u "java/lang/Object")] 2

/-- java/io/Serializable -/
def k2 : Class := { plain "java/io/Serializable" (some 0) with
  accessFlags := 1537
  interfaces := #[]
  cf := some (fileOf pool2 1 #[] #[] 1537 3 #[] #[])
  fields := #[]
  methods := #[]
  instanceTypes := #[]
  staticTypes := #[]
  resolved := Array.replicate 7 none
  statics := none }

def pool3 : Array CpInfo := pool [(1, .class_ 2), (0, u "java/lang/Comparable"), (0, .class_ 4), (0, u "java/lang/Object")] 7

/-- java/lang/Comparable -/
def k3 : Class := { plain "java/lang/Comparable" (some 0) with
  accessFlags := 1537
  interfaces := #[]
  cf := some (fileOf pool3 1 #[] #[] 1537 3 #[] #[])
  fields := #[]
  methods := #[]
  instanceTypes := #[]
  staticTypes := #[]
  resolved := Array.replicate 12 none
  statics := none }

def pool4 : Array CpInfo := pool [(2, .class_ 4), (1, u "java/lang/CharSequence"), (42, .class_ 48), (0, u "java/lang/CharSequence$1CodePointIterator"), (10, .class_ 60), (0, u "java/lang/CharSequence$1CharIterator"), (5, .class_ 67), (0, u "java/lang/Object")] 63

/-- java/lang/CharSequence -/
def k4 : Class := { plain "java/lang/CharSequence" (some 0) with
  accessFlags := 1537
  interfaces := #[]
  cf := some (fileOf pool4 2 #[.nestMembers #[47, 59]] #[] 1537 66 #[] #[])
  fields := #[]
  methods := #[]
  instanceTypes := #[]
  staticTypes := #[]
  resolved := Array.replicate 131 none
  statics := none }

def pool5 : Array CpInfo := pool [(1, .class_ 2), (0, u "java/lang/constant/Constable"), (0, .class_ 4), (0, u "java/lang/Object")] 6

/-- java/lang/constant/Constable -/
def k5 : Class := { plain "java/lang/constant/Constable" (some 0) with
  accessFlags := 1537
  interfaces := #[]
  cf := some (fileOf pool5 1 #[] #[] 1537 3 #[] #[])
  fields := #[]
  methods := #[]
  instanceTypes := #[]
  staticTypes := #[]
  resolved := Array.replicate 11 none
  statics := none }

def pool6 : Array CpInfo := pool [(1, .class_ 2), (0, u "java/lang/constant/ConstantDesc"), (0, .class_ 4), (0, u "java/lang/Object")] 32

/-- java/lang/constant/ConstantDesc -/
def k6 : Class := { plain "java/lang/constant/ConstantDesc" (some 0) with
  accessFlags := 1537
  interfaces := #[]
  cf := some (fileOf pool6 1 #[] #[] 1537 3 #[] #[])
  fields := #[]
  methods := #[]
  instanceTypes := #[]
  staticTypes := #[]
  resolved := Array.replicate 37 none
  statics := none }

def pool7 : Array CpInfo := pool [(1, .methodref 2 3), (0, .class_ 4), (0, .nameAndType 5 6), (0, u "java/lang/Object"), (0, u "<init>"), (0, u "()V"), (2, .fieldref 10 11), (0, .class_ 12), (0, .nameAndType 13 14), (0, u "java/lang/String"), (0, u "value"), (0, u "[B"), (0, .fieldref 10 16), (0, .nameAndType 17 18), (0, u "coder"), (0, u "B"), (2, u "hash"), (0, u "I"), (2, u "hashIsZero"), (0, u "Z"), (0, .methodref 10 28), (0, .nameAndType 5 29), (0, u "([CIILjava/lang/Void;)V"), (8, .fieldref 10 39), (0, .nameAndType 40 26), (0, u "COMPACT_STRINGS"), (1, .class_ 44), (1, u "java/lang/StringUTF16"), (0, u "compress"), (1, .methodref 42 48), (0, .nameAndType 49 50), (0, u "coderFromArrayLen"), (0, u "([BI)B"), (2, u "toBytes"), (53, .class_ 109), (1, u "java/lang/StringLatin1"), (67, .methodref 42 178), (0, .nameAndType 45 179), (0, u "([CII)[B"), (29, .methodref 10 210), (0, .nameAndType 5 211), (0, u "([BB)V"), (157, u "(C)Z"), (171, .methodref 107 542), (0, .nameAndType 543 544), (0, u "equals"), (0, u "([B[B)Z"), (28, u "(Ljava/lang/Object;)Z"), (1, .class_ 576), (0, u "java/lang/CharSequence"), (22, u "CASE_INSENSITIVE_ORDER"), (0, u "Ljava/util/Comparator;"), (181, u "valueOf"), (0, u "(C)Ljava/lang/String;"), (226, u "([C)V"), (4, .methodref 107 1016), (0, .nameAndType 1017 369), (0, u "canEncode"), (0, .methodref 107 1019), (0, .nameAndType 53 1020), (0, u "(C)[B"), (80, u "serialPersistentFields"), (0, u "[Ljava/io/ObjectStreamField;"), (0, .class_ 1104), (0, u "java/lang/String$CaseInsensitiveComparator"), (1, .class_ 1107), (0, u "java/io/Serializable"), (0, .class_ 1109), (0, u "java/lang/Comparable"), (0, .class_ 1111), (0, u "java/lang/constant/Constable"), (0, .class_ 1113), (0, u "java/lang/constant/ConstantDesc"), (2, u "serialVersionUID"), (0, u "J"), (3, u "REPL"), (0, u "C"), (2, u "LATIN1"), (1, u "UTF16")] 323

def k7m0 : Method := { name := "<init>", desc := "()V", sig := { parameters := [], returnType := none }, accessFlags := 1, code := none }
def k7c1 : Code := { maxStack := 5, maxLocals := 2, code := jdk_42_method_3_code, exceptionTable := #[], attributes := #[] }
def k7m1 : Method := { name := "<init>", desc := "([C)V", sig := { parameters := [(.array .char)], returnType := none }, accessFlags := 1, code := some k7c1 }
def k7c2 : Code := { maxStack := 2, maxLocals := 3, code := jdk_42_method_66_code, exceptionTable := #[], attributes := #[] }
def k7m2 : Method := { name := "equals", desc := "(Ljava/lang/Object;)Z", sig := { parameters := [(.object "java/lang/Object")], returnType := some .boolean }, accessFlags := 1, code := some k7c2 }
def k7c3 : Code := { maxStack := 4, maxLocals := 1, code := jdk_42_method_139_code, exceptionTable := #[], attributes := #[] }
def k7m3 : Method := { name := "valueOf", desc := "(C)Ljava/lang/String;", sig := { parameters := [.char], returnType := some (.object "java/lang/String") }, accessFlags := 9, code := some k7c3 }
def k7c4 : Code := { maxStack := 4, maxLocals := 6, code := jdk_42_method_149_code, exceptionTable := #[], attributes := #[] }
def k7m4 : Method := { name := "<init>", desc := "([CIILjava/lang/Void;)V", sig := { parameters := [(.array .char), .int, .int, (.object "java/lang/Void")], returnType := none }, accessFlags := 2, code := some k7c4 }
def k7c5 : Code := { maxStack := 2, maxLocals := 3, code := jdk_42_method_151_code, exceptionTable := #[], attributes := #[] }
def k7m5 : Method := { name := "<init>", desc := "([BB)V", sig := { parameters := [(.array .byte), .byte], returnType := none }, accessFlags := 0, code := some k7c5 }
/-- java/lang/String -/
def k7 : Class := { plain "java/lang/String" (some 0) with
  accessFlags := 49
  interfaces := #[2, 3, 4, 5, 6]
  cf := some (fileOf pool7 10 #[.nestMembers #[1103]] #[{ accessFlags := 1, nameIndex := 5, descriptorIndex := 6, attributes := #[] }, { accessFlags := 1, nameIndex := 5, descriptorIndex := 1010, attributes := #[] }, { accessFlags := 1, nameIndex := 543, descriptorIndex := 573, attributes := #[] }, { accessFlags := 9, nameIndex := 782, descriptorIndex := 783, attributes := #[] }, { accessFlags := 2, nameIndex := 5, descriptorIndex := 29, attributes := #[] }, { accessFlags := 0, nameIndex := 5, descriptorIndex := 211, attributes := #[] }] 49 2 #[1106, 1108, 575, 1110, 1112] #[{ accessFlags := 18, nameIndex := 13, descriptorIndex := 14, attributes := #[] }, { accessFlags := 18, nameIndex := 17, descriptorIndex := 18, attributes := #[] }, { accessFlags := 2, nameIndex := 21, descriptorIndex := 22, attributes := #[] }, { accessFlags := 2, nameIndex := 25, descriptorIndex := 26, attributes := #[] }, { accessFlags := 26, nameIndex := 1116, descriptorIndex := 1117, attributes := #[] }, { accessFlags := 24, nameIndex := 40, descriptorIndex := 26, attributes := #[] }, { accessFlags := 26, nameIndex := 1101, descriptorIndex := 1102, attributes := #[] }, { accessFlags := 26, nameIndex := 1121, descriptorIndex := 1122, attributes := #[] }, { accessFlags := 25, nameIndex := 599, descriptorIndex := 600, attributes := #[] }, { accessFlags := 24, nameIndex := 1125, descriptorIndex := 18, attributes := #[] }, { accessFlags := 24, nameIndex := 1127, descriptorIndex := 18, attributes := #[] }])
  fields := #[{ name := "value", type := (.array .byte), accessFlags := 18, slot := 0, constantValue := 0 }, { name := "coder", type := .byte, accessFlags := 18, slot := 1, constantValue := 0 }, { name := "hash", type := .int, accessFlags := 2, slot := 2, constantValue := 0 }, { name := "hashIsZero", type := .boolean, accessFlags := 2, slot := 3, constantValue := 0 }, { name := "serialVersionUID", type := .long, accessFlags := 26, slot := 0, constantValue := 0 }, { name := "COMPACT_STRINGS", type := .boolean, accessFlags := 24, slot := 1, constantValue := 0 }, { name := "serialPersistentFields", type := (.array (.object "java/io/ObjectStreamField")), accessFlags := 26, slot := 2, constantValue := 0 }, { name := "REPL", type := .char, accessFlags := 26, slot := 3, constantValue := 0 }, { name := "CASE_INSENSITIVE_ORDER", type := (.object "java/util/Comparator"), accessFlags := 25, slot := 4, constantValue := 0 }, { name := "LATIN1", type := .byte, accessFlags := 24, slot := 5, constantValue := 0 }, { name := "UTF16", type := .byte, accessFlags := 24, slot := 6, constantValue := 0 }]
  methods := #[k7m0, k7m1, k7m2, k7m3, k7m4, k7m5]
  instanceTypes := #[(.array .byte), .byte, .int, .boolean]
  staticTypes := #[.long, .boolean, (.array (.object "java/io/ObjectStreamField")), .char, (.object "java/util/Comparator"), .byte, .byte]
  resolved := Array.replicate 1451 none
  statics := some 0 }

def pool8 : Array CpInfo := pool [(4, .class_ 6), (1, u "java/lang/Object"), (0, u "<init>"), (0, u "()V"), (5, .class_ 16), (1, u "java/lang/StringLatin1"), (73, u "canEncode"), (14, u "(C)Z"), (15, u "$assertionsDisabled"), (0, u "Z"), (98, .class_ 223), (1, u "java/lang/StringLatin1$LinesSpliterator"), (57, u "equals"), (0, u "([B[B)Z"), (97, u "toBytes"), (1, u "(C)[B"), (7, .class_ 391), (0, u "java/lang/StringLatin1$CharsSpliterator")] 3

def k8m0 : Method := { name := "<init>", desc := "()V", sig := { parameters := [], returnType := none }, accessFlags := 0, code := none }
def k8c1 : Code := { maxStack := 2, maxLocals := 1, code := jdk_43_method_3_code, exceptionTable := #[], attributes := #[] }
def k8m1 : Method := { name := "canEncode", desc := "(C)Z", sig := { parameters := [.char], returnType := some .boolean }, accessFlags := 9, code := some k8c1 }
def k8c2 : Code := { maxStack := 3, maxLocals := 3, code := jdk_43_method_13_code, exceptionTable := #[], attributes := #[] }
def k8m2 : Method := { name := "equals", desc := "([B[B)Z", sig := { parameters := [(.array .byte), (.array .byte)], returnType := some .boolean }, accessFlags := 9, code := some k8c2 }
def k8c3 : Code := { maxStack := 4, maxLocals := 1, code := jdk_43_method_46_code, exceptionTable := #[], attributes := #[] }
def k8m3 : Method := { name := "toBytes", desc := "(C)[B", sig := { parameters := [.char], returnType := some (.array .byte) }, accessFlags := 9, code := some k8c3 }
/-- java/lang/StringLatin1 -/
def k8 : Class := { plain "java/lang/StringLatin1" (some 0) with
  accessFlags := 48
  interfaces := #[]
  cf := some (fileOf pool8 14 #[.nestMembers #[390, 221]] #[{ accessFlags := 0, nameIndex := 7, descriptorIndex := 8, attributes := #[] }, { accessFlags := 9, nameIndex := 90, descriptorIndex := 105, attributes := #[] }, { accessFlags := 9, nameIndex := 281, descriptorIndex := 282, attributes := #[] }, { accessFlags := 9, nameIndex := 380, descriptorIndex := 382, attributes := #[] }] 48 4 #[] #[{ accessFlags := 4120, nameIndex := 121, descriptorIndex := 122, attributes := #[] }])
  fields := #[{ name := "$assertionsDisabled", type := .boolean, accessFlags := 4120, slot := 0, constantValue := 0 }]
  methods := #[k8m0, k8m1, k8m2, k8m3]
  instanceTypes := #[]
  staticTypes := #[.boolean]
  resolved := Array.replicate 395 none
  statics := none }

def pool9 : Array CpInfo := pool [(1, .methodref 2 3), (0, .class_ 4), (0, .nameAndType 5 6), (0, u "java/lang/Object"), (0, u "<init>"), (0, u "()V"), (0, .class_ 8), (0, u "java/lang/Record")] 13

def k9c0 : Code := { maxStack := 1, maxLocals := 1, code := jdk_30_method_1_code, exceptionTable := #[], attributes := #[] }
def k9m0 : Method := { name := "<init>", desc := "()V", sig := { parameters := [], returnType := none }, accessFlags := 4, code := some k9c0 }
/-- java/lang/Record -/
def k9 : Class := { plain "java/lang/Record" (some 0) with
  accessFlags := 1057
  interfaces := #[]
  cf := some (fileOf pool9 7 #[] #[{ accessFlags := 4, nameIndex := 5, descriptorIndex := 6, attributes := #[] }] 1057 2 #[] #[])
  fields := #[]
  methods := #[k9m0]
  instanceTypes := #[]
  staticTypes := #[]
  resolved := Array.replicate 22 none
  statics := none }

def pool10 : Array CpInfo := pool [(1, .methodref 2 3), (0, .class_ 4), (0, .nameAndType 5 6), (0, u "java/lang/Record"), (0, u "<init>"), (0, u "()V"), (0, .fieldref 8 9), (0, .class_ 10), (0, .nameAndType 11 12), (0, u "com/example/archive_packager/archivepackager/dc/DcElement$Attribute"), (0, u "namespace"), (0, u "Lcom/example/archive_packager/archivepackager/xml/Namespace;"), (0, .fieldref 8 14), (0, .nameAndType 15 16), (0, u "name"), (0, u "Ljava/lang/String;"), (0, .fieldref 8 18), (0, .nameAndType 19 16), (0, u "value"), (0, .fieldref 8 21), (0, .nameAndType 22 12), (0, u "valueNamespace"), (0, .methodref 24 25), (0, .class_ 26), (0, .nameAndType 27 28), (0, u "com/example/archive_packager/archivepackager/xml/Namespace"), (0, u "uri"), (0, u "()Ljava/lang/String;"), (0, .fieldref 24 30), (0, .nameAndType 31 12), (0, u "XSI"), (0, .methodref 33 34), (0, .class_ 35), (0, .nameAndType 36 37), (0, u "java/lang/String"), (0, u "equals"), (0, u "(Ljava/lang/Object;)Z"), (0, .string 39), (0, u "type"), (11, u "(Lcom/example/archive_packager/archivepackager/xml/Namespace;Ljava/lang/String;Ljava/lang/String;Lcom/example/archive_packager/archivepackager/xml/Namespace;)V"), (3, u "isType"), (0, u "()Z"), (6, .class_ 64), (0, u "com/example/archive_packager/archivepackager/dc/DcElement")] 22

def k10c0 : Code := { maxStack := 2, maxLocals := 5, code := prog_13_method_1_code, exceptionTable := #[], attributes := #[] }
def k10m0 : Method := { name := "<init>", desc := "(Lcom/example/archive_packager/archivepackager/xml/Namespace;Ljava/lang/String;Ljava/lang/String;Lcom/example/archive_packager/archivepackager/xml/Namespace;)V", sig := { parameters := [(.object "com/example/archive_packager/archivepackager/xml/Namespace"), (.object "java/lang/String"), (.object "java/lang/String"), (.object "com/example/archive_packager/archivepackager/xml/Namespace")], returnType := none }, accessFlags := 1, code := some k10c0 }
def k10c1 : Code := { maxStack := 2, maxLocals := 1, code := prog_13_method_2_code, exceptionTable := #[], attributes := #[] }
def k10m1 : Method := { name := "isType", desc := "()Z", sig := { parameters := [], returnType := some .boolean }, accessFlags := 0, code := some k10c1 }
/-- com/example/archive_packager/archivepackager/dc/DcElement$Attribute -/
def k10 : Class := { plain "com/example/archive_packager/archivepackager/dc/DcElement$Attribute" (some 9) with
  accessFlags := 49
  interfaces := #[]
  cf := some (fileOf pool10 8 #[.nestHost 63] #[{ accessFlags := 1, nameIndex := 5, descriptorIndex := 51, attributes := #[] }, { accessFlags := 0, nameIndex := 55, descriptorIndex := 56, attributes := #[] }] 49 2 #[] #[{ accessFlags := 18, nameIndex := 11, descriptorIndex := 12, attributes := #[] }, { accessFlags := 18, nameIndex := 15, descriptorIndex := 16, attributes := #[] }, { accessFlags := 18, nameIndex := 19, descriptorIndex := 16, attributes := #[] }, { accessFlags := 18, nameIndex := 22, descriptorIndex := 12, attributes := #[] }])
  fields := #[{ name := "namespace", type := (.object "com/example/archive_packager/archivepackager/xml/Namespace"), accessFlags := 18, slot := 0, constantValue := 0 }, { name := "name", type := (.object "java/lang/String"), accessFlags := 18, slot := 1, constantValue := 0 }, { name := "value", type := (.object "java/lang/String"), accessFlags := 18, slot := 2, constantValue := 0 }, { name := "valueNamespace", type := (.object "com/example/archive_packager/archivepackager/xml/Namespace"), accessFlags := 18, slot := 3, constantValue := 0 }]
  methods := #[k10m0, k10m1]
  instanceTypes := #[(.object "com/example/archive_packager/archivepackager/xml/Namespace"), (.object "java/lang/String"), (.object "java/lang/String"), (.object "com/example/archive_packager/archivepackager/xml/Namespace")]
  staticTypes := #[]
  resolved := Array.replicate 87 none
  statics := none }

def pool11 : Array CpInfo := pool [(1, .methodref 2 3), (0, .class_ 4), (0, .nameAndType 5 6), (0, u "java/lang/Record"), (0, u "<init>"), (0, u "()V"), (0, .fieldref 8 9), (0, .class_ 10), (0, .nameAndType 11 12), (0, u "com/example/archive_packager/archivepackager/xml/Namespace"), (0, u "prefix"), (0, u "Ljava/lang/String;"), (0, .fieldref 8 14), (0, .nameAndType 15 12), (0, u "uri"), (18, u "(Ljava/lang/String;Ljava/lang/String;)V"), (2, u "METS"), (0, u "Lcom/example/archive_packager/archivepackager/xml/Namespace;"), (6, u "XLINK"), (6, u "DC"), (6, u "DCTERMS"), (6, u "SCHEMA"), (6, u "PREMIS"), (6, u "XSI"), (6, u "XML"), (3, u "()Ljava/lang/String;")] 24

def k11c0 : Code := { maxStack := 2, maxLocals := 3, code := prog_104_method_1_code, exceptionTable := #[], attributes := #[] }
def k11m0 : Method := { name := "<init>", desc := "(Ljava/lang/String;Ljava/lang/String;)V", sig := { parameters := [(.object "java/lang/String"), (.object "java/lang/String")], returnType := none }, accessFlags := 1, code := some k11c0 }
def k11c1 : Code := { maxStack := 1, maxLocals := 1, code := prog_104_method_6_code, exceptionTable := #[], attributes := #[] }
def k11m1 : Method := { name := "uri", desc := "()Ljava/lang/String;", sig := { parameters := [], returnType := some (.object "java/lang/String") }, accessFlags := 1, code := some k11c1 }
/-- com/example/archive_packager/archivepackager/xml/Namespace -/
def k11 : Class := { plain "com/example/archive_packager/archivepackager/xml/Namespace" (some 9) with
  accessFlags := 49
  interfaces := #[]
  cf := some (fileOf pool11 8 #[] #[{ accessFlags := 1, nameIndex := 5, descriptorIndex := 34, attributes := #[] }, { accessFlags := 1, nameIndex := 15, descriptorIndex := 91, attributes := #[] }] 49 2 #[] #[{ accessFlags := 18, nameIndex := 11, descriptorIndex := 12, attributes := #[] }, { accessFlags := 18, nameIndex := 15, descriptorIndex := 12, attributes := #[] }, { accessFlags := 25, nameIndex := 37, descriptorIndex := 38, attributes := #[] }, { accessFlags := 25, nameIndex := 45, descriptorIndex := 38, attributes := #[] }, { accessFlags := 25, nameIndex := 52, descriptorIndex := 38, attributes := #[] }, { accessFlags := 25, nameIndex := 59, descriptorIndex := 38, attributes := #[] }, { accessFlags := 25, nameIndex := 66, descriptorIndex := 38, attributes := #[] }, { accessFlags := 25, nameIndex := 73, descriptorIndex := 38, attributes := #[] }, { accessFlags := 25, nameIndex := 80, descriptorIndex := 38, attributes := #[] }, { accessFlags := 25, nameIndex := 87, descriptorIndex := 38, attributes := #[] }])
  fields := #[{ name := "prefix", type := (.object "java/lang/String"), accessFlags := 18, slot := 0, constantValue := 0 }, { name := "uri", type := (.object "java/lang/String"), accessFlags := 18, slot := 1, constantValue := 0 }, { name := "METS", type := (.object "com/example/archive_packager/archivepackager/xml/Namespace"), accessFlags := 25, slot := 0, constantValue := 0 }, { name := "XLINK", type := (.object "com/example/archive_packager/archivepackager/xml/Namespace"), accessFlags := 25, slot := 1, constantValue := 0 }, { name := "DC", type := (.object "com/example/archive_packager/archivepackager/xml/Namespace"), accessFlags := 25, slot := 2, constantValue := 0 }, { name := "DCTERMS", type := (.object "com/example/archive_packager/archivepackager/xml/Namespace"), accessFlags := 25, slot := 3, constantValue := 0 }, { name := "SCHEMA", type := (.object "com/example/archive_packager/archivepackager/xml/Namespace"), accessFlags := 25, slot := 4, constantValue := 0 }, { name := "PREMIS", type := (.object "com/example/archive_packager/archivepackager/xml/Namespace"), accessFlags := 25, slot := 5, constantValue := 0 }, { name := "XSI", type := (.object "com/example/archive_packager/archivepackager/xml/Namespace"), accessFlags := 25, slot := 6, constantValue := 0 }, { name := "XML", type := (.object "com/example/archive_packager/archivepackager/xml/Namespace"), accessFlags := 25, slot := 7, constantValue := 0 }]
  methods := #[k11m0, k11m1]
  instanceTypes := #[(.object "java/lang/String"), (.object "java/lang/String")]
  staticTypes := #[(.object "com/example/archive_packager/archivepackager/xml/Namespace"), (.object "com/example/archive_packager/archivepackager/xml/Namespace"), (.object "com/example/archive_packager/archivepackager/xml/Namespace"), (.object "com/example/archive_packager/archivepackager/xml/Namespace"), (.object "com/example/archive_packager/archivepackager/xml/Namespace"), (.object "com/example/archive_packager/archivepackager/xml/Namespace"), (.object "com/example/archive_packager/archivepackager/xml/Namespace"), (.object "com/example/archive_packager/archivepackager/xml/Namespace")]
  resolved := Array.replicate 116 none
  statics := some 1 }

def pool12 : Array CpInfo := pool [(6, .class_ 8), (1, u "java/lang/Object"), (0, u "<init>"), (0, u "()V"), (1, .class_ 14), (1, u "java/lang/StringUTF16"), (31, u "$assertionsDisabled"), (0, u "Z"), (13, u "HI_BYTE_SHIFT"), (0, u "I"), (2, u "LO_BYTE_SHIFT"), (49, .methodref 12 116), (0, .nameAndType 117 118), (0, u "compress"), (0, u "([CI[BII)I"), (3, u "([CII)[B"), (138, u "coderFromArrayLen"), (0, u "([BI)B"), (106, .class_ 371), (1, u "java/lang/StringUTF16$LinesSpliterator"), (58, u "MAX_LENGTH"), (196, .class_ 628), (0, u "java/lang/StringUTF16$CodePointsSpliterator"), (0, .class_ 630), (0, u "java/lang/StringUTF16$CharsSpliterator")] 4

def k12m0 : Method := { name := "<init>", desc := "()V", sig := { parameters := [], returnType := none }, accessFlags := 0, code := none }
def k12c1 : Code := { maxStack := 2, maxLocals := 2, code := jdk_52_method_15_code, exceptionTable := #[], attributes := #[] }
def k12m1 : Method := { name := "coderFromArrayLen", desc := "([BI)B", sig := { parameters := [(.array .byte), .int], returnType := some .byte }, accessFlags := 8, code := some k12c1 }
def k12c2 : Code := { maxStack := 5, maxLocals := 6, code := jdk_52_method_16_code, exceptionTable := #[], attributes := #[] }
def k12m2 : Method := { name := "compress", desc := "([CII)[B", sig := { parameters := [(.array .char), .int, .int], returnType := some (.array .byte) }, accessFlags := 9, code := some k12c2 }
def k12c3 : Code := { maxStack := 3, maxLocals := 7, code := jdk_52_method_21_code, exceptionTable := #[], attributes := #[] }
def k12m3 : Method := { name := "compress", desc := "([CI[BII)I", sig := { parameters := [(.array .char), .int, (.array .byte), .int, .int], returnType := some .int }, accessFlags := 9, code := some k12c3 }
/-- java/lang/StringUTF16 -/
def k12 : Class := { plain "java/lang/StringUTF16" (some 0) with
  accessFlags := 48
  interfaces := #[]
  cf := some (fileOf pool12 12 #[.nestMembers #[627, 629, 369]] #[{ accessFlags := 0, nameIndex := 9, descriptorIndex := 10, attributes := #[] }, { accessFlags := 8, nameIndex := 261, descriptorIndex := 262, attributes := #[] }, { accessFlags := 9, nameIndex := 117, descriptorIndex := 122, attributes := #[] }, { accessFlags := 9, nameIndex := 117, descriptorIndex := 118, attributes := #[] }] 48 6 #[] #[{ accessFlags := 26, nameIndex := 61, descriptorIndex := 62, attributes := #[] }, { accessFlags := 26, nameIndex := 65, descriptorIndex := 62, attributes := #[] }, { accessFlags := 24, nameIndex := 430, descriptorIndex := 62, attributes := #[] }, { accessFlags := 4120, nameIndex := 46, descriptorIndex := 47, attributes := #[] }])
  fields := #[{ name := "HI_BYTE_SHIFT", type := .int, accessFlags := 26, slot := 0, constantValue := 0 }, { name := "LO_BYTE_SHIFT", type := .int, accessFlags := 26, slot := 1, constantValue := 0 }, { name := "MAX_LENGTH", type := .int, accessFlags := 24, slot := 2, constantValue := 0 }, { name := "$assertionsDisabled", type := .boolean, accessFlags := 4120, slot := 3, constantValue := 0 }]
  methods := #[k12m0, k12m1, k12m2, k12m3]
  instanceTypes := #[]
  staticTypes := #[.int, .int, .int, .boolean]
  resolved := Array.replicate 635 none
  statics := none }

def pool13 : Array CpInfo := pool [(2, .class_ 4), (1, u "java/lang/Object"), (0, u "<init>"), (0, u "()V"), (17, .class_ 26), (1, u "jdk/internal/util/Preconditions"), (28, .class_ 56), (0, u "jdk/internal/util/Preconditions$4"), (57, .class_ 115), (0, u "jdk/internal/util/Preconditions$1"), (7, u "SIOOBE_FORMATTER"), (0, u "Ljava/util/function/BiFunction;"), (0, .class_ 126), (0, u "jdk/internal/util/Preconditions$2"), (3, u "AIOOBE_FORMATTER"), (0, .class_ 132), (0, u "jdk/internal/util/Preconditions$3"), (3, u "IOOBE_FORMATTER")] 57

def k13m0 : Method := { name := "<init>", desc := "()V", sig := { parameters := [], returnType := none }, accessFlags := 1, code := none }
/-- jdk/internal/util/Preconditions -/
def k13 : Class := { plain "jdk/internal/util/Preconditions" (some 0) with
  accessFlags := 33
  interfaces := #[]
  cf := some (fileOf pool13 24 #[.nestMembers #[55, 131, 125, 114]] #[{ accessFlags := 1, nameIndex := 5, descriptorIndex := 6, attributes := #[] }] 33 2 #[] #[{ accessFlags := 25, nameIndex := 123, descriptorIndex := 124, attributes := #[] }, { accessFlags := 25, nameIndex := 130, descriptorIndex := 124, attributes := #[] }, { accessFlags := 25, nameIndex := 136, descriptorIndex := 124, attributes := #[] }])
  fields := #[{ name := "SIOOBE_FORMATTER", type := (.object "java/util/function/BiFunction"), accessFlags := 25, slot := 0, constantValue := 0 }, { name := "AIOOBE_FORMATTER", type := (.object "java/util/function/BiFunction"), accessFlags := 25, slot := 1, constantValue := 0 }, { name := "IOOBE_FORMATTER", type := (.object "java/util/function/BiFunction"), accessFlags := 25, slot := 2, constantValue := 0 }]
  methods := #[k13m0]
  instanceTypes := #[]
  staticTypes := #[(.object "java/util/function/BiFunction"), (.object "java/util/function/BiFunction"), (.object "java/util/function/BiFunction")]
  resolved := Array.replicate 194 none
  statics := some 2 }

def pool14 : Array CpInfo := pool [(9, u "<init>"), (6, .class_ 18), (1, u "java/lang/Object"), (0, u "()V"), (1, .class_ 23), (1, u "jdk/internal/util/ArraysSupport"), (0, u "LOG2_ARRAY_LONG_INDEX_SCALE"), (0, u "I"), (2, u "U"), (0, u "Ljdk/internal/misc/Unsafe;"), (8, u "BIG_ENDIAN"), (0, u "Z"), (8, u "LOG2_BYTE_BIT_SIZE"), (4, u "LOG2_ARRAY_INT_INDEX_SCALE"), (54, u "JLA"), (0, u "Ljdk/internal/access/JavaLangAccess;"), (11, u "LOG2_ARRAY_BOOLEAN_INDEX_SCALE"), (9, u "LOG2_ARRAY_BYTE_INDEX_SCALE"), (5, u "LOG2_ARRAY_CHAR_INDEX_SCALE"), (5, u "LOG2_ARRAY_SHORT_INDEX_SCALE"), (18, u "LOG2_ARRAY_FLOAT_INDEX_SCALE"), (24, u "LOG2_ARRAY_DOUBLE_INDEX_SCALE"), (89, u "T_BOOLEAN"), (2, u "T_CHAR"), (1, u "T_FLOAT"), (1, u "T_DOUBLE"), (1, u "T_BYTE"), (1, u "T_SHORT"), (1, u "T_INT"), (1, u "T_LONG"), (1, u "SOFT_MAX_ARRAY_LENGTH")] 83

def k14m0 : Method := { name := "<init>", desc := "()V", sig := { parameters := [], returnType := none }, accessFlags := 2, code := none }
/-- jdk/internal/util/ArraysSupport -/
def k14 : Class := { plain "jdk/internal/util/ArraysSupport" (some 0) with
  accessFlags := 33
  interfaces := #[]
  cf := some (fileOf pool14 21 #[] #[{ accessFlags := 2, nameIndex := 9, descriptorIndex := 19, attributes := #[] }] 33 16 #[] #[{ accessFlags := 24, nameIndex := 28, descriptorIndex := 29, attributes := #[] }, { accessFlags := 26, nameIndex := 38, descriptorIndex := 39, attributes := #[] }, { accessFlags := 25, nameIndex := 121, descriptorIndex := 25, attributes := #[] }, { accessFlags := 25, nameIndex := 131, descriptorIndex := 25, attributes := #[] }, { accessFlags := 25, nameIndex := 137, descriptorIndex := 25, attributes := #[] }, { accessFlags := 25, nameIndex := 143, descriptorIndex := 25, attributes := #[] }, { accessFlags := 25, nameIndex := 53, descriptorIndex := 25, attributes := #[] }, { accessFlags := 25, nameIndex := 24, descriptorIndex := 25, attributes := #[] }, { accessFlags := 25, nameIndex := 162, descriptorIndex := 25, attributes := #[] }, { accessFlags := 25, nameIndex := 187, descriptorIndex := 25, attributes := #[] }, { accessFlags := 26, nameIndex := 48, descriptorIndex := 25, attributes := #[] }, { accessFlags := 25, nameIndex := 277, descriptorIndex := 25, attributes := #[] }, { accessFlags := 25, nameIndex := 280, descriptorIndex := 25, attributes := #[] }, { accessFlags := 25, nameIndex := 282, descriptorIndex := 25, attributes := #[] }, { accessFlags := 25, nameIndex := 284, descriptorIndex := 25, attributes := #[] }, { accessFlags := 25, nameIndex := 286, descriptorIndex := 25, attributes := #[] }, { accessFlags := 25, nameIndex := 288, descriptorIndex := 25, attributes := #[] }, { accessFlags := 25, nameIndex := 290, descriptorIndex := 25, attributes := #[] }, { accessFlags := 25, nameIndex := 292, descriptorIndex := 25, attributes := #[] }, { accessFlags := 26, nameIndex := 108, descriptorIndex := 109, attributes := #[] }, { accessFlags := 25, nameIndex := 294, descriptorIndex := 25, attributes := #[] }])
  fields := #[{ name := "U", type := (.object "jdk/internal/misc/Unsafe"), accessFlags := 24, slot := 0, constantValue := 0 }, { name := "BIG_ENDIAN", type := .boolean, accessFlags := 26, slot := 1, constantValue := 0 }, { name := "LOG2_ARRAY_BOOLEAN_INDEX_SCALE", type := .int, accessFlags := 25, slot := 2, constantValue := 0 }, { name := "LOG2_ARRAY_BYTE_INDEX_SCALE", type := .int, accessFlags := 25, slot := 3, constantValue := 0 }, { name := "LOG2_ARRAY_CHAR_INDEX_SCALE", type := .int, accessFlags := 25, slot := 4, constantValue := 0 }, { name := "LOG2_ARRAY_SHORT_INDEX_SCALE", type := .int, accessFlags := 25, slot := 5, constantValue := 0 }, { name := "LOG2_ARRAY_INT_INDEX_SCALE", type := .int, accessFlags := 25, slot := 6, constantValue := 0 }, { name := "LOG2_ARRAY_LONG_INDEX_SCALE", type := .int, accessFlags := 25, slot := 7, constantValue := 0 }, { name := "LOG2_ARRAY_FLOAT_INDEX_SCALE", type := .int, accessFlags := 25, slot := 8, constantValue := 0 }, { name := "LOG2_ARRAY_DOUBLE_INDEX_SCALE", type := .int, accessFlags := 25, slot := 9, constantValue := 0 }, { name := "LOG2_BYTE_BIT_SIZE", type := .int, accessFlags := 26, slot := 10, constantValue := 0 }, { name := "T_BOOLEAN", type := .int, accessFlags := 25, slot := 11, constantValue := 0 }, { name := "T_CHAR", type := .int, accessFlags := 25, slot := 12, constantValue := 0 }, { name := "T_FLOAT", type := .int, accessFlags := 25, slot := 13, constantValue := 0 }, { name := "T_DOUBLE", type := .int, accessFlags := 25, slot := 14, constantValue := 0 }, { name := "T_BYTE", type := .int, accessFlags := 25, slot := 15, constantValue := 0 }, { name := "T_SHORT", type := .int, accessFlags := 25, slot := 16, constantValue := 0 }, { name := "T_INT", type := .int, accessFlags := 25, slot := 17, constantValue := 0 }, { name := "T_LONG", type := .int, accessFlags := 25, slot := 18, constantValue := 0 }, { name := "JLA", type := (.object "jdk/internal/access/JavaLangAccess"), accessFlags := 26, slot := 19, constantValue := 0 }, { name := "SOFT_MAX_ARRAY_LENGTH", type := .int, accessFlags := 25, slot := 20, constantValue := 0 }]
  methods := #[k14m0]
  instanceTypes := #[]
  staticTypes := #[(.object "jdk/internal/misc/Unsafe"), .boolean, .int, .int, .int, .int, .int, .int, .int, .int, .int, .int, .int, .int, .int, .int, .int, .int, .int, (.object "jdk/internal/access/JavaLangAccess"), .int]
  resolved := Array.replicate 378 none
  statics := none }

def pool15 : Array CpInfo := pool [(1, u "java/lang/Cloneable"), (0, .class_ 1), (0, u "java/lang/Object"), (0, .class_ 3)] 3

/-- java/lang/Cloneable -/
def k15 : Class := { plain "java/lang/Cloneable" (some 0) with
  accessFlags := 1537
  interfaces := #[]
  cf := some (fileOf pool15 2 #[] #[] 1537 4 #[] #[])
  fields := #[]
  methods := #[]
  instanceTypes := #[]
  staticTypes := #[]
  resolved := Array.replicate 8 none
  statics := none }

/-- the primitive byte -/
def k16 : Class := { plain "byte" none with kind := .primitive 'B', accessFlags := 0x411 }
/-- [B -/
def k17 : Class := { plain "[B" (some 0) with kind := .array 16 .byte, interfaces := #[15, 2], accessFlags := 1041 }

/-- the primitive char -/
def k18 : Class := { plain "char" none with kind := .primitive 'C', accessFlags := 0x411 }
/-- [C -/
def k19 : Class := { plain "[C" (some 0) with kind := .array 18 .char, interfaces := #[15, 2], accessFlags := 1041 }

/-- the primitive int -/
def k20 : Class := { plain "int" none with kind := .primitive 'I', accessFlags := 0x411 }
/-- [I -/
def k21 : Class := { plain "[I" (some 0) with kind := .array 20 .int, interfaces := #[15, 2], accessFlags := 1041 }

def heap : Heap := #[{ cls := 7, slots := #[.long 0, .int 1, .null, .int 0, .null, .int 0, .int 0], vm := .statics 7 },
  { cls := 11, slots := #[.null, .null, .null, .ref 8, .null, .null, .ref 5, .null], vm := .statics 11 },
  { cls := 13, slots := #[.null, .null, .null], vm := .statics 13 },
  { cls := 17, slots := #[.int 104, .int 116, .int 116, .int 112, .int 58, .int 47, .int 47, .int 119, .int 119, .int 119, .int 46, .int 119, .int 51, .int 46, .int 111, .int 114, .int 103, .int 47, .int 50, .int 48, .int 48, .int 49, .int 47, .int 88, .int 77, .int 76, .int 83, .int 99, .int 104, .int 101, .int 109, .int 97, .int 45, .int 105, .int 110, .int 115, .int 116, .int 97, .int 110, .int 99, .int 101], vm := .none },
  { cls := 7, slots := #[.ref 3, .int 0, .int 0, .int 0], vm := .none },
  { cls := 11, slots := #[.null, .ref 4], vm := .none },
  { cls := 17, slots := #[.int 0, .int 0, .int 0, .int 0, .int 0, .int 0, .int 0, .int 0, .int 0, .int 0, .int 0, .int 0, .int 0, .int 0, .int 0, .int 0, .int 0, .int 0, .int 0, .int 0, .int 0, .int 0, .int 0, .int 0, .int 0], vm := .none },
  { cls := 7, slots := #[.ref 6, .int 0, .int 0, .int 0], vm := .none },
  { cls := 11, slots := #[.null, .ref 7], vm := .none }]
def classes : Array Class := #[k0, k1, k2, k3, k4, k5, k6, k7, k8, k9, k10, k11, k12, k13, k14, k15, k16, k17, k18, k19, k20, k21]
def interned : List (Array UInt16 × Addr) := []
def slotsUsed : Nat := 96
def theMethod : MethodId := ⟨1, 1⟩
def args0 : Array Value := #[.int 5, .int 7, .int 3, .int 4]
def aboutOver (below : List Frame) : State where
  vm := { classes := classes, interned := interned.toArray }
  heap := heap
  slotsUsed := slotsUsed
  threads := #[{ frames := .invoking theMethod args0 :: below }]
def below0 : List Frame := [.native { method := ⟨0, 0⟩, args := #[] }]
def about1 : State := aboutOver below0
def p0 : Program := .bare "" "" ""
def e0 : Env := launch0.env 0 0 0
theorem w_frames : about1.frames = Frame.invoking theMethod args0 :: below0 := rfl
set_option maxRecDepth 65536 in
theorem w_args : argsFit about1.vm theMethod args0 = true := by decide +kernel
set_option maxRecDepth 65536 in
theorem w_heap : heapFits about1 = true := by decide +kernel
set_option maxRecDepth 65536 in
theorem w_runnable : about1.curStatus? = some .runnable := by decide +kernel
set_option maxRecDepth 65536 in
theorem w_alone : about1.alone = true := by decide +kernel
set_option maxRecDepth 65536 in
theorem w_named : about1.methodNamed? x = some theMethod := by decide +kernel
set_option maxRecDepth 65536 in
theorem w_hears : about1.hears theMethod below0 = true := by decide +kernel
set_option maxRecDepth 65536 in
theorem w_ripe : about1.ripe theMethod args0 below0 = true := by decide +kernel
theorem w_running : about1.status = .running := rfl
set_option maxRecDepth 65536 in
theorem w_room : about1.hasRoom e0.platform room_1 = true :=
  launch0.hasRoom_least _ room_1 (by decide +kernel) (by decide +kernel) (by decide +kernel) (by decide +kernel) (by decide +kernel) (by decide +kernel)
theorem allAtoms_all (ts : List Jvm.Cond) (a : Array Jvm.Value) (st : Jvm.State) : (allAtoms ts).before a st = ts.all (fun c => c.before a st) := by
  induction ts with
  | nil => rfl
  | cons c t ih =>
    show (Jvm.Cond.and c (allAtoms t)).before a st = _
    rw [Jvm.Cond.before_and, ih, List.all_cons]
def words1 : List Jvm.Cond := Jvm.Cond.code x code maxLocals ret :: tables_1
/-- a 'code' word, met by the world's own term for the bytes: nothing is compared byte by byte -/
theorem code_word {y : MethodName} {bytes : ByteArray} {mx : Nat} {rt : Option FieldType} {a : Array Value} {s : State} {m : MethodId} {meth : Method} {c : Code} (h1 : s.methodNamed? y = some m) (h2 : s.vm.method? m = some meth) (h3 : meth.code = some c) (h4 : c.code = bytes)
    (h5 : (c.maxLocals == mx && c.exceptionTable.isEmpty && decide (c.maxStack ≤ mostOperands) && decide (meth.sig.returnType = rt) && !meth.locks && decide (parseMethodDescriptor y.desc = some meth.sig)) = true) : (Jvm.Cond.code y bytes mx rt).before a s = true := by
  simp only [Bool.and_eq_true, beq_iff_eq, Bool.not_eq_true', decide_eq_true_eq] at h5
  obtain ⟨⟨⟨⟨⟨g1, g2⟩, g3⟩, g4⟩, g5⟩, g6⟩ := h5
  simp [Cond.before, Cond.holds, Cond.value, h1, h2, h3, h4, g1, g2, g3, g4, g5, g6]
def isCode : Jvm.Cond → Bool
  | .code _ _ _ _ => true
  | _ => false
theorem all_split {L : List Jvm.Cond} {P : Jvm.Cond → Bool} (h1 : L.all (fun c => isCode c || P c) = true) (h2 : ∀ c ∈ L.filter isCode, P c = true) : L.all P = true := by
  refine List.all_eq_true.mpr fun c hc => ?_
  have h := List.all_eq_true.mp h1 c hc
  rcases Bool.eq_false_or_eq_true (isCode c) with hi | hi
  · exact h2 c (List.mem_filter.mpr ⟨hc, hi⟩)
  · simpa [hi] using h
set_option maxRecDepth 65536 in
theorem w_c0 : (Jvm.Cond.code x code maxLocals ret).before args0 about1 = true := code_word (m := ⟨1, 1⟩) (meth := k1m1) (c := k1c1) (by decide +kernel) rfl rfl rfl (by decide +kernel)
set_option maxRecDepth 65536 in
theorem w_c1 : (Jvm.Cond.code ({ cls := "java/lang/String", name := "valueOf", desc := "(C)Ljava/lang/String;" } : Jvm.MethodName) jdk_42_method_139_code (1 : Nat) (Option.some (Jvm.ClassFile.FieldType.object "java/lang/String"))).before args0 about1 = true := code_word (m := ⟨7, 3⟩) (meth := k7m3) (c := k7c3) (by decide +kernel) rfl rfl rfl (by decide +kernel)
set_option maxRecDepth 65536 in
theorem w_c2 : (Jvm.Cond.code ({ cls := "java/lang/StringLatin1", name := "canEncode", desc := "(C)Z" } : Jvm.MethodName) jdk_43_method_3_code (1 : Nat) (Option.some Jvm.ClassFile.FieldType.boolean)).before args0 about1 = true := code_word (m := ⟨8, 1⟩) (meth := k8m1) (c := k8c1) (by decide +kernel) rfl rfl rfl (by decide +kernel)
set_option maxRecDepth 65536 in
theorem w_c3 : (Jvm.Cond.code ({ cls := "java/lang/StringLatin1", name := "toBytes", desc := "(C)[B" } : Jvm.MethodName) jdk_43_method_46_code (1 : Nat) (Option.some (Jvm.ClassFile.FieldType.array Jvm.ClassFile.FieldType.byte))).before args0 about1 = true := code_word (m := ⟨8, 3⟩) (meth := k8m3) (c := k8c3) (by decide +kernel) rfl rfl rfl (by decide +kernel)
set_option maxRecDepth 65536 in
theorem w_c4 : (Jvm.Cond.code ({ cls := "java/lang/String", name := "<init>", desc := "([BB)V" } : Jvm.MethodName) jdk_42_method_151_code (3 : Nat) (Option.none : Option Jvm.ClassFile.FieldType)).before args0 about1 = true := code_word (m := ⟨7, 5⟩) (meth := k7m5) (c := k7c5) (by decide +kernel) rfl rfl rfl (by decide +kernel)
set_option maxRecDepth 65536 in
theorem w_c5 : (Jvm.Cond.code ({ cls := "java/lang/Object", name := "<init>", desc := "()V" } : Jvm.MethodName) object_method_1_code (1 : Nat) (Option.none : Option Jvm.ClassFile.FieldType)).before args0 about1 = true := code_word (m := ⟨0, 0⟩) (meth := k0m0) (c := k0c0) (by decide +kernel) rfl rfl rfl (by decide +kernel)
set_option maxRecDepth 65536 in
theorem w_c6 : (Jvm.Cond.code ({ cls := "com/example/archive_packager/archivepackager/dc/DcElement$Attribute", name := "<init>", desc := "(Lcom/example/archive_packager/archivepackager/xml/Namespace;Ljava/lang/String;Ljava/lang/String;Lcom/example/archive_packager/archivepackager/xml/Namespace;)V" } : Jvm.MethodName) prog_13_method_1_code (5 : Nat) (Option.none : Option Jvm.ClassFile.FieldType)).before args0 about1 = true := code_word (m := ⟨10, 0⟩) (meth := k10m0) (c := k10c0) (by decide +kernel) rfl rfl rfl (by decide +kernel)
set_option maxRecDepth 65536 in
theorem w_c7 : (Jvm.Cond.code ({ cls := "java/lang/Record", name := "<init>", desc := "()V" } : Jvm.MethodName) jdk_30_method_1_code (1 : Nat) (Option.none : Option Jvm.ClassFile.FieldType)).before args0 about1 = true := code_word (m := ⟨9, 0⟩) (meth := k9m0) (c := k9c0) (by decide +kernel) rfl rfl rfl (by decide +kernel)
set_option maxRecDepth 65536 in
theorem w_c8 : (Jvm.Cond.code ({ cls := "com/example/archive_packager/archivepackager/dc/DcElement$Attribute", name := "isType", desc := "()Z" } : Jvm.MethodName) prog_13_method_2_code (1 : Nat) (Option.some Jvm.ClassFile.FieldType.boolean)).before args0 about1 = true := code_word (m := ⟨10, 1⟩) (meth := k10m1) (c := k10c1) (by decide +kernel) rfl rfl rfl (by decide +kernel)
set_option maxRecDepth 65536 in
theorem w_c9 : (Jvm.Cond.code ({ cls := "com/example/archive_packager/archivepackager/xml/Namespace", name := "<init>", desc := "(Ljava/lang/String;Ljava/lang/String;)V" } : Jvm.MethodName) prog_104_method_1_code (3 : Nat) (Option.none : Option Jvm.ClassFile.FieldType)).before args0 about1 = true := code_word (m := ⟨11, 0⟩) (meth := k11m0) (c := k11c0) (by decide +kernel) rfl rfl rfl (by decide +kernel)
set_option maxRecDepth 65536 in
theorem w_c10 : (Jvm.Cond.code ({ cls := "com/example/archive_packager/archivepackager/xml/Namespace", name := "uri", desc := "()Ljava/lang/String;" } : Jvm.MethodName) prog_104_method_6_code (1 : Nat) (Option.some (Jvm.ClassFile.FieldType.object "java/lang/String"))).before args0 about1 = true := code_word (m := ⟨11, 1⟩) (meth := k11m1) (c := k11c1) (by decide +kernel) rfl rfl rfl (by decide +kernel)
set_option maxRecDepth 65536 in
theorem w_c11 : (Jvm.Cond.code ({ cls := "java/lang/String", name := "equals", desc := "(Ljava/lang/Object;)Z" } : Jvm.MethodName) jdk_42_method_66_code (3 : Nat) (Option.some Jvm.ClassFile.FieldType.boolean)).before args0 about1 = true := code_word (m := ⟨7, 2⟩) (meth := k7m2) (c := k7c2) (by decide +kernel) rfl rfl rfl (by decide +kernel)
set_option maxRecDepth 65536 in
theorem w_c12 : (Jvm.Cond.code ({ cls := "java/lang/StringLatin1", name := "equals", desc := "([B[B)Z" } : Jvm.MethodName) jdk_43_method_13_code (3 : Nat) (Option.some Jvm.ClassFile.FieldType.boolean)).before args0 about1 = true := code_word (m := ⟨8, 2⟩) (meth := k8m2) (c := k8c2) (by decide +kernel) rfl rfl rfl (by decide +kernel)
set_option maxRecDepth 65536 in
theorem w_c13 : (Jvm.Cond.code ({ cls := "java/lang/String", name := "<init>", desc := "([C)V" } : Jvm.MethodName) jdk_42_method_3_code (2 : Nat) (Option.none : Option Jvm.ClassFile.FieldType)).before args0 about1 = true := code_word (m := ⟨7, 1⟩) (meth := k7m1) (c := k7c1) (by decide +kernel) rfl rfl rfl (by decide +kernel)
set_option maxRecDepth 65536 in
theorem w_c14 : (Jvm.Cond.code ({ cls := "java/lang/String", name := "<init>", desc := "([CIILjava/lang/Void;)V" } : Jvm.MethodName) jdk_42_method_149_code (6 : Nat) (Option.none : Option Jvm.ClassFile.FieldType)).before args0 about1 = true := code_word (m := ⟨7, 4⟩) (meth := k7m4) (c := k7c4) (by decide +kernel) rfl rfl rfl (by decide +kernel)
set_option maxRecDepth 65536 in
theorem w_c15 : (Jvm.Cond.code ({ cls := "java/lang/StringUTF16", name := "compress", desc := "([CII)[B" } : Jvm.MethodName) jdk_52_method_16_code (6 : Nat) (Option.some (Jvm.ClassFile.FieldType.array Jvm.ClassFile.FieldType.byte))).before args0 about1 = true := code_word (m := ⟨12, 2⟩) (meth := k12m2) (c := k12c2) (by decide +kernel) rfl rfl rfl (by decide +kernel)
set_option maxRecDepth 65536 in
theorem w_c16 : (Jvm.Cond.code ({ cls := "java/lang/StringUTF16", name := "compress", desc := "([CI[BII)I" } : Jvm.MethodName) jdk_52_method_21_code (7 : Nat) (Option.some Jvm.ClassFile.FieldType.int)).before args0 about1 = true := code_word (m := ⟨12, 3⟩) (meth := k12m3) (c := k12c3) (by decide +kernel) rfl rfl rfl (by decide +kernel)
set_option maxRecDepth 65536 in
theorem w_c17 : (Jvm.Cond.code ({ cls := "java/lang/StringUTF16", name := "coderFromArrayLen", desc := "([BI)B" } : Jvm.MethodName) jdk_52_method_15_code (2 : Nat) (Option.some Jvm.ClassFile.FieldType.byte)).before args0 about1 = true := code_word (m := ⟨12, 1⟩) (meth := k12m1) (c := k12c1) (by decide +kernel) rfl rfl rfl (by decide +kernel)
def codes1 : List Jvm.Cond := [Jvm.Cond.code x code maxLocals ret, Jvm.Cond.code ({ cls := "java/lang/String", name := "valueOf", desc := "(C)Ljava/lang/String;" } : Jvm.MethodName) jdk_42_method_139_code (1 : Nat) (Option.some (Jvm.ClassFile.FieldType.object "java/lang/String")), Jvm.Cond.code ({ cls := "java/lang/StringLatin1", name := "canEncode", desc := "(C)Z" } : Jvm.MethodName) jdk_43_method_3_code (1 : Nat) (Option.some Jvm.ClassFile.FieldType.boolean), Jvm.Cond.code ({ cls := "java/lang/StringLatin1", name := "toBytes", desc := "(C)[B" } : Jvm.MethodName) jdk_43_method_46_code (1 : Nat) (Option.some (Jvm.ClassFile.FieldType.array Jvm.ClassFile.FieldType.byte)), Jvm.Cond.code ({ cls := "java/lang/String", name := "<init>", desc := "([BB)V" } : Jvm.MethodName) jdk_42_method_151_code (3 : Nat) (Option.none : Option Jvm.ClassFile.FieldType), Jvm.Cond.code ({ cls := "java/lang/Object", name := "<init>", desc := "()V" } : Jvm.MethodName) object_method_1_code (1 : Nat) (Option.none : Option Jvm.ClassFile.FieldType), Jvm.Cond.code ({ cls := "com/example/archive_packager/archivepackager/dc/DcElement$Attribute", name := "<init>", desc := "(Lcom/example/archive_packager/archivepackager/xml/Namespace;Ljava/lang/String;Ljava/lang/String;Lcom/example/archive_packager/archivepackager/xml/Namespace;)V" } : Jvm.MethodName) prog_13_method_1_code (5 : Nat) (Option.none : Option Jvm.ClassFile.FieldType), Jvm.Cond.code ({ cls := "java/lang/Record", name := "<init>", desc := "()V" } : Jvm.MethodName) jdk_30_method_1_code (1 : Nat) (Option.none : Option Jvm.ClassFile.FieldType), Jvm.Cond.code ({ cls := "com/example/archive_packager/archivepackager/dc/DcElement$Attribute", name := "isType", desc := "()Z" } : Jvm.MethodName) prog_13_method_2_code (1 : Nat) (Option.some Jvm.ClassFile.FieldType.boolean), Jvm.Cond.code ({ cls := "com/example/archive_packager/archivepackager/xml/Namespace", name := "<init>", desc := "(Ljava/lang/String;Ljava/lang/String;)V" } : Jvm.MethodName) prog_104_method_1_code (3 : Nat) (Option.none : Option Jvm.ClassFile.FieldType), Jvm.Cond.code ({ cls := "com/example/archive_packager/archivepackager/xml/Namespace", name := "uri", desc := "()Ljava/lang/String;" } : Jvm.MethodName) prog_104_method_6_code (1 : Nat) (Option.some (Jvm.ClassFile.FieldType.object "java/lang/String")), Jvm.Cond.code ({ cls := "java/lang/String", name := "equals", desc := "(Ljava/lang/Object;)Z" } : Jvm.MethodName) jdk_42_method_66_code (3 : Nat) (Option.some Jvm.ClassFile.FieldType.boolean), Jvm.Cond.code ({ cls := "java/lang/StringLatin1", name := "equals", desc := "([B[B)Z" } : Jvm.MethodName) jdk_43_method_13_code (3 : Nat) (Option.some Jvm.ClassFile.FieldType.boolean), Jvm.Cond.code ({ cls := "java/lang/String", name := "<init>", desc := "([C)V" } : Jvm.MethodName) jdk_42_method_3_code (2 : Nat) (Option.none : Option Jvm.ClassFile.FieldType), Jvm.Cond.code ({ cls := "java/lang/String", name := "<init>", desc := "([CIILjava/lang/Void;)V" } : Jvm.MethodName) jdk_42_method_149_code (6 : Nat) (Option.none : Option Jvm.ClassFile.FieldType), Jvm.Cond.code ({ cls := "java/lang/StringUTF16", name := "compress", desc := "([CII)[B" } : Jvm.MethodName) jdk_52_method_16_code (6 : Nat) (Option.some (Jvm.ClassFile.FieldType.array Jvm.ClassFile.FieldType.byte)), Jvm.Cond.code ({ cls := "java/lang/StringUTF16", name := "compress", desc := "([CI[BII)I" } : Jvm.MethodName) jdk_52_method_21_code (7 : Nat) (Option.some Jvm.ClassFile.FieldType.int), Jvm.Cond.code ({ cls := "java/lang/StringUTF16", name := "coderFromArrayLen", desc := "([BI)B" } : Jvm.MethodName) jdk_52_method_15_code (2 : Nat) (Option.some Jvm.ClassFile.FieldType.byte)]
set_option maxRecDepth 65536 in
theorem codes_eq : words1.filter isCode = codes1 := rfl
theorem w_codes : ∀ c ∈ words1.filter isCode, c.before args0 about1 = true := by
  rw [codes_eq]
  intro c hc
  simp only [codes1, List.mem_cons, List.not_mem_nil, or_false] at hc
  rcases hc with rfl | rfl | rfl | rfl | rfl | rfl | rfl | rfl | rfl | rfl | rfl | rfl | rfl | rfl | rfl | rfl | rfl | rfl
  · exact w_c0
  · exact w_c1
  · exact w_c2
  · exact w_c3
  · exact w_c4
  · exact w_c5
  · exact w_c6
  · exact w_c7
  · exact w_c8
  · exact w_c9
  · exact w_c10
  · exact w_c11
  · exact w_c12
  · exact w_c13
  · exact w_c14
  · exact w_c15
  · exact w_c16
  · exact w_c17
set_option maxRecDepth 65536 in
theorem w_t1 : (words1.take 24).all (fun c => isCode c || c.before args0 about1) = true := by decide +kernel
set_option maxRecDepth 65536 in
theorem w_t2 : ((words1.drop 24).take 24).all (fun c => isCode c || c.before args0 about1) = true := by decide +kernel
set_option maxRecDepth 65536 in
theorem w_t3 : (((words1.drop 24).drop 24).take 24).all (fun c => isCode c || c.before args0 about1) = true := by decide +kernel
set_option maxRecDepth 65536 in
theorem w_t4 : ((((words1.drop 24).drop 24).drop 24).take 24).all (fun c => isCode c || c.before args0 about1) = true := by decide +kernel
set_option maxRecDepth 65536 in
theorem w_t5 : ((((words1.drop 24).drop 24).drop 24).drop 24).all (fun c => isCode c || c.before args0 about1) = true := by decide +kernel
theorem w_tables : (allAtoms (Jvm.Cond.code x code maxLocals ret :: tables_1)).before args0 about1 = true := by
  rw [allAtoms_all]
  show words1.all (fun c => c.before args0 about1) = true
  refine all_split ?_ w_codes
  rw [← List.take_append_drop 24 words1, List.all_append, w_t1, ← List.take_append_drop 24 (words1.drop 24), List.all_append, w_t2, ← List.take_append_drop 24 ((words1.drop 24).drop 24), List.all_append, w_t3, ← List.take_append_drop 24 (((words1.drop 24).drop 24).drop 24), List.all_append, w_t4, w_t5]
  rfl
set_option maxRecDepth 65536 in
theorem w_rest : rest_1_c.before args0 about1 = true := by decide +kernel
set_option maxRecDepth 65536 in
theorem w_case : (Jvm.Cond.and given_1 narrow_1).before args0 about1 = true := by decide +kernel
set_option maxRecDepth 65536 in
theorem w_consts : constsHeld consts_1 about1 := Jvm.Lit.constsHeldB_iff.mp (by decide +kernel)
theorem w_applies : (headSpec (Jvm.Cond.code x code maxLocals ret :: tables_1) room_1).applies x e0.platform about1 = true :=
  (Spec.applies_iff w_frames).mpr ⟨w_running, w_runnable, w_alone, w_named, w_hears, w_ripe, w_room, w_tables⟩
theorem atStart : AtStart classFile x code maxLocals ret World_1 tables_1 room_1 Calls_1 rest_1 Pre_1 launch0 p0 e0 about1 theMethod args0 below0 :=
  ⟨lists_1, trivial, launch0.admits_env _ _ _, launch0.least_env, fairChoices_fair.cas, fairChoices_fair.clock, w_frames, w_args, w_heap, w_applies, ⟨w_consts, trivial⟩, w_rest, w_case⟩
end start1
theorem witness_1 : WitnessClaimed_1 := ⟨start1.p0, start1.e0, start1.about1, start1.theMethod, start1.args0, start1.below0, start1.atStart⟩
end Jvm.Pilot.@@N@@
